import PyProof.Rows.All
import Wide.All
import OpenK.AllK
import Wide.FinOn
import PySem.Challenge.RW_ak5005_01
set_option Elab.async false
namespace Mine
section
open PySem PySem.Float64
/-! part F1 -/
/-- x is the finite double of the value z / 2 -/
def HV (x : UInt64) (z : Int) : Prop := (∃ a m e, decode x = .fin a m e) ∧ val x = z * 2 ^ 1073

theorem mulP (n P : Nat) : 2 * n * P = n * (2 * P) := by rw [Nat.mul_comm 2 n, Nat.mul_assoc]
theorem natAbs_zero_mul (z : Int) (P n : Nat) (hz : z = 0) (h : n = z.natAbs * P) : n = 0 := by
  subst hz; rw [h]; exact Nat.zero_mul _
theorem sgn_int (z : Int) (n : Nat) (h : z.natAbs = n) : sgn (decide (z < 0)) n = z := by
  unfold sgn
  by_cases hz : z < 0
  · simp only [hz, decide_true, if_true]; omega
  · simp only [hz, decide_false]; simp; omega

theorem log2_bounds {n : Nat} (h : n ≠ 0) : 2 ^ n.log2 ≤ n ∧ n < 2 ^ (n.log2 + 1) := ⟨Nat.log2_self_le h, Nat.lt_log2_self⟩

/-- every q < 2^53, times 2^j, is representable -/
theorem rep (n j : Nat) (hn : n < 2 ^ 53) (hj0 : 52 ≤ j) (hj : j ≤ 1500) : ∃ t, t < infMag ∧ V t = n * 2 ^ j := by
  by_cases h0 : n = 0
  · exact ⟨0, by decide, by rw [V_zero, h0]; simp⟩
  · have hl := log2_bounds h0
    have hl52 : n.log2 ≤ 52 := by
      have : n.log2 < 53 := (Nat.log2_lt h0).mpr hn
      omega
    have hq1 : 2 ^ 52 ≤ n * 2 ^ (52 - n.log2) := by
      calc 2 ^ 52 = 2 ^ n.log2 * 2 ^ (52 - n.log2) := by rw [← Nat.pow_add]; congr 1; omega
        _ ≤ n * 2 ^ (52 - n.log2) := Nat.mul_le_mul_right _ hl.1
    have hq2 : n * 2 ^ (52 - n.log2) < 2 ^ 53 := by
      calc n * 2 ^ (52 - n.log2) < 2 ^ (n.log2 + 1) * 2 ^ (52 - n.log2) := Nat.mul_lt_mul_of_pos_right hl.2 (Nat.two_pow_pos _)
        _ = 2 ^ 53 := by rw [← Nat.pow_add]; congr 1; omega
    refine ⟨(j - (52 - n.log2)) * 2 ^ 52 + n * 2 ^ (52 - n.log2), ?_, ?_⟩
    · have hi : infMag = 2047 * 2 ^ 52 := rfl
      omega
    · rw [V_at (Nat.le_of_lt hq2) (.inl hq1), Nat.mul_assoc, ← Nat.pow_add]
      congr 2; omega

theorem V_inj {t t' : Nat} (h : V t = V t') : t = t' := by
  rcases Nat.lt_trichotomy t t' with q | q | q
  · have := V_lt q; omega
  · exact q
  · have := V_lt q; omega
theorem V_le_iff {t t' : Nat} (h : V t ≤ V t') : t ≤ t' := by
  rcases Nat.lt_or_ge t' t with q | q
  · have := V_lt q; omega
  · exact q

theorem dist_zero {a b : Nat} (h : dist a b = 0) : a = b := by unfold dist at h; omega
theorem dist_self' (a : Nat) : dist a a = 0 := by unfold dist; omega

theorem small_big (v : Nat) (h : v < 2 ^ 1600) : ¬ ((2 ^ 54 - 1) * 2 ^ 2045 ≤ 2 * v) := by
  have h2 : (2 : Nat) ^ 2045 = 2 ^ 1600 * 2 ^ 445 := by rw [← Nat.pow_add]
  have h3 : (1 : Nat) ≤ 2 ^ 445 := Nat.one_le_two_pow
  intro q
  have h4 : (2 : Nat) ^ 1600 ≤ 2 ^ 2045 := Nat.pow_le_pow_right (by decide) (by decide)
  have h5 : (2 ^ 54 - 1) * 2 ^ 2045 ≥ 2 * 2 ^ 2045 := Nat.mul_le_mul_right _ (by decide)
  omega

theorem right_small {r : UInt64} {neg : Bool} {W D : Nat} (hD : 0 < D) (h : Right r neg W D) (hs : W < D * 2 ^ 1600) :
    ∃ t, r = pack neg t ∧ t < infMag ∧ ∀ t', dist W (D * V t) ≤ dist W (D * V t') := by
  obtain ⟨t, rfl, ht, hi, hn⟩ := h
  have ne : t ≠ infMag := by
    intro e
    have q := hi.mp e
    have h5 : (2 ^ 54 - 1) * 2 ^ 2045 ≥ 2 * 2 ^ 2045 := Nat.mul_le_mul_right _ (by decide)
    have h4 : (2 : Nat) ^ 1600 ≤ 2 ^ 2045 := Nat.pow_le_pow_right (by decide) (by decide)
    have h6 : D * (2 * 2 ^ 2045) ≤ D * ((2 ^ 54 - 1) * 2 ^ 2045) := Nat.mul_le_mul_left _ h5
    have h7 : D * 2 ^ 1600 ≤ D * 2 ^ 2045 := Nat.mul_le_mul_left _ h4
    have h8 : D * (2 * 2 ^ 2045) = 2 * (D * 2 ^ 2045) := (mulP D _).symm.trans (Nat.mul_assoc _ _ _)
    have h9 := Nat.lt_of_lt_of_le hs h7
    have h10 := Nat.le_trans h6 q
    clear hi hn hs h4 h5 h6 h7 q
    generalize (2 : Nat) ^ 2045 = P at *
    generalize D * P = DP at *
    omega
  have lt := Nat.lt_of_le_of_ne ht ne
  exact ⟨t, rfl, lt, fun t' => (hn lt t').1⟩

theorem dist_le_zero {a b : Nat} {c : Nat} (h : dist a b ≤ dist c c) : a = b := dist_zero (by rw [dist_self'] at h; omega)
theorem lt_big (n : Nat) (hn : n < 2 ^ 53) : n * 2 ^ 1073 < 1 * 2 ^ 1600 := by
    rw [Nat.one_mul]
    calc n * 2 ^ 1073 < 2 ^ 53 * 2 ^ 1073 := Nat.mul_lt_mul_of_pos_right hn (Nat.two_pow_pos _)
      _ = 2 ^ (53 + 1073) := by rw [← Nat.pow_add]
      _ ≤ 2 ^ 1600 := Nat.pow_le_pow_right (by decide) (by decide)
theorem right_exact {r : UInt64} {neg : Bool} {n : Nat} (hn : n < 2 ^ 53) (h : Right r neg (n * 2 ^ 1073) 1) :
    (∃ a m e, decode r = .fin a m e) ∧ val r = sgn neg (n * 2 ^ 1073) := by
  have hb := lt_big n hn
  obtain ⟨t, rfl, ht, hd⟩ := right_small (by decide) h hb
  obtain ⟨t0, h0, hv⟩ := rep n 1073 hn (by decide) (by decide)
  have := hd t0
  rw [Nat.one_mul, Nat.one_mul, hv] at this
  have e : n * 2 ^ 1073 = V t := dist_le_zero this
  obtain ⟨m, ee, hdec, _⟩ := decode_pack neg ht
  exact ⟨⟨_, _, _, hdec⟩, by rw [val_pack neg ht, ← e]⟩

theorem natAbs_pow (z : Int) (k : Nat) : (z * 2 ^ k).natAbs = z.natAbs * 2 ^ k := by
  rw [Int.natAbs_mul, Int.natAbs_pow]; rfl
theorem ipow_pos (k : Nat) : (0 : Int) < 2 ^ k := by have := Nat.two_pow_pos k; exact_mod_cast this
theorem ipow_cast (k : Nat) : ((2 : Int) ^ k) = ((2 ^ k : Nat) : Int) := by push_cast; rfl
theorem neg_pow (z : Int) (k : Nat) : decide (z * 2 ^ k < 0) = decide (z < 0) := by
  have hp : (0 : Int) < 2 ^ k := by have := Nat.two_pow_pos k; exact_mod_cast this
  by_cases h : z < 0
  · have : z * 2 ^ k < 0 := Int.mul_neg_of_neg_of_pos h hp
    simp [h, this]
  · have : ¬ z * 2 ^ k < 0 := by have := Int.mul_nonneg (Int.not_lt.mp h) (Int.le_of_lt hp); omega
    simp [h, this]
theorem pow_ne (z : Int) (k : Nat) : z * 2 ^ k = 0 ↔ z = 0 := by
  have hp : (0 : Int) < 2 ^ k := by have := Nat.two_pow_pos k; exact_mod_cast this
  constructor
  · intro h
    rcases Int.mul_eq_zero.mp h with q | q
    · exact q
    · omega
  · rintro rfl; simp

theorem HV.of_right {r : UInt64} {z : Int} (hz : z.natAbs < 2 ^ 53) (h : Right r (decide (z < 0)) (z.natAbs * 2 ^ 1073) 1) : HV r z := by
  obtain ⟨h1, h2⟩ := right_exact hz h
  refine ⟨h1, ?_⟩
  rw [h2, sgn_mul, sgn_int z _ rfl]
  congr 1
theorem HV.zero (b : Bool) : HV (zero b) 0 := by
  obtain ⟨m, e, hd, hv⟩ := decode_pack b (t := 0) (by decide)
  exact ⟨⟨_, _, _, hd⟩, by
    rw [val_eq (x := Float64.zero b) hd, hv, V_zero]
    unfold sgn
    cases b
    · exact (Int.zero_mul _).symm
    · exact (Int.zero_mul _).symm⟩

theorem HV.add {x y : UInt64} {a b : Int} (hx : HV x a) (hy : HV y b) (h : (a + b).natAbs < 2 ^ 53) : HV (Float64.add x y) (a + b) := by
  obtain ⟨⟨_, _, _, dx⟩, vx⟩ := hx
  obtain ⟨⟨_, _, _, dy⟩, vy⟩ := hy
  obtain ⟨h1, h2⟩ := add_right dx dy
  have hv : val x + val y = (a + b) * 2 ^ 1073 := by rw [vx, vy, Int.add_mul]
  rw [hv] at h1 h2
  by_cases hz : a + b = 0
  · rw [h1 ((pow_ne _ _).mpr hz), hz]; exact HV.zero _
  · have := h2 (fun q => hz ((pow_ne _ _).mp q))
    rw [neg_pow, natAbs_pow] at this
    exact HV.of_right h this
theorem HV.sub {x y : UInt64} {a b : Int} (hx : HV x a) (hy : HV y b) (h : (a - b).natAbs < 2 ^ 53) : HV (Float64.sub x y) (a - b) := by
  obtain ⟨⟨_, _, _, dx⟩, vx⟩ := hx
  obtain ⟨⟨_, _, _, dy⟩, vy⟩ := hy
  obtain ⟨h1, h2⟩ := sub_right dx dy
  have hv : val x - val y = (a - b) * 2 ^ 1073 := by rw [vx, vy, Int.sub_mul]
  rw [hv] at h1 h2
  by_cases hz : a - b = 0
  · rw [h1 ((pow_ne _ _).mpr hz), hz]; exact HV.zero _
  · have := h2 (fun q => hz ((pow_ne _ _).mp q))
    rw [neg_pow, natAbs_pow] at this
    exact HV.of_right h this
theorem mulPi (n P : Int) : n * (2 * P) = 2 * n * P := by rw [Int.mul_comm 2 n, Int.mul_assoc]
theorem HV.ofInt (n : Int) (h : (2 * n).natAbs < 2 ^ 53) : HV (Float64.ofInt n) (2 * n) := by
  have := ofInt_right n
  refine HV.of_right h ?_
  have e1 : decide (2 * n < 0) = decide (n < 0) := by by_cases q : n < 0 <;> simp [q] <;> omega
  have e2 : (2 * n).natAbs * 2 ^ 1073 = n.natAbs * 2 ^ 1074 := by
    rw [Int.natAbs_mul, show (2 : Int).natAbs = 2 from rfl, show (2 : Nat) ^ 1074 = 2 * 2 ^ 1073 from by rw [← Nat.pow_succ']]
    exact mulP _ _
  rw [e1, e2]; exact this

theorem compare_pow (a b : Int) (k : Nat) : compare (a * 2 ^ k) (b * 2 ^ k) = compare a b := by
  have hp : (0 : Int) < 2 ^ k := by have := Nat.two_pow_pos k; exact_mod_cast this
  rcases Int.lt_trichotomy a b with h | h | h
  · rw [Int.compare_eq_lt.mpr h, Int.compare_eq_lt.mpr (Int.mul_lt_mul_of_pos_right h hp)]
  · subst h; simp
  · rw [Int.compare_eq_gt.mpr h, Int.compare_eq_gt.mpr (Int.mul_lt_mul_of_pos_right h hp)]
theorem HV.cmp {x y : UInt64} {a b : Int} (hx : HV x a) (hy : HV y b) : Float64.cmp x y = some (compare a b) := by
  obtain ⟨⟨_, _, _, dx⟩, vx⟩ := hx
  obtain ⟨⟨_, _, _, dy⟩, vy⟩ := hy
  rw [cmp_right dx dy, vx, vy, compare_pow]
theorem HV.cmpInt {x : UInt64} {a : Int} (hx : HV x a) (n : Int) : Float64.cmpInt x n = some (compare a (2 * n)) := by
  obtain ⟨⟨_, _, _, dx⟩, vx⟩ := hx
  rw [cmpInt_right dx, vx]
  have : n * 2 ^ 1074 = 2 * n * 2 ^ 1073 := by
    rw [show (2 : Int) ^ 1074 = 2 * 2 ^ 1073 from by rw [← Int.pow_succ']]
    exact mulPi _ _
  rw [this, compare_pow]
theorem HV.finite {x : UInt64} {a : Int} (hx : HV x a) : Float64.isFinite x = true := by
  obtain ⟨⟨_, _, _, dx⟩, _⟩ := hx
  unfold Float64.isFinite; rw [dx]
theorem HV.notNaN {x : UInt64} {a : Int} (hx : HV x a) : Float64.isNaN x = false := by
  obtain ⟨⟨_, _, _, dx⟩, _⟩ := hx
  unfold Float64.isNaN; rw [dx]
theorem HV.notInf {x : UInt64} {a : Int} (hx : HV x a) : Float64.isInf x = false := by
  obtain ⟨⟨_, _, _, dx⟩, _⟩ := hx
  unfold Float64.isInf; rw [dx]
theorem HV.isZero {x : UInt64} {a : Int} (hx : HV x a) : Float64.isZero x = decide (a = 0) := by
  obtain ⟨⟨s, m, e, dx⟩, v⟩ := hx
  have hm : (m = 0) ↔ a = 0 := by
    rw [val_eq dx] at v
    have h1 := congrArg Int.natAbs v
    rw [sgn_natAbs, natAbs_pow] at h1
    have hp1 := Nat.two_pow_pos (e + 1074).toNat
    have hp2 := Nat.two_pow_pos 1073
    constructor
    · intro hm0
      rw [hm0, Nat.zero_mul] at h1
      rcases Nat.mul_eq_zero.mp h1.symm with q | q
      · omega
      · exact absurd q (Nat.ne_of_gt hp2)
    · intro ha0
      have h2 : m * 2 ^ (e + 1074).toNat = 0 := natAbs_zero_mul _ _ _ ha0 h1
      rcases Nat.mul_eq_zero.mp h2 with q | q
      · exact q
      · exact absurd q (Nat.ne_of_gt hp1)
  unfold Float64.isZero; rw [dx]
  by_cases h : m = 0
  · subst h; simp [hm.mp rfl]
  · have : a ≠ 0 := fun q => h (hm.mpr q)
    simp only [this, decide_false]
    split
    · rename_i q; injection q with _ q2 _; exact absurd q2 h
    · rfl

theorem floor_val (m c : Nat) (e : Int) (he : -(c : Int) ≤ e) : floorOf false m e = ((m * 2 ^ (e + c).toNat : Nat) : Int) / ((2 ^ c : Nat) : Int) := by
  unfold floorOf sgn
  simp only [Bool.false_eq_true, if_false]
  by_cases h0 : e ≥ 0
  · rw [if_pos h0]
    have : (e + c).toNat = e.toNat + c := by omega
    rw [this, Nat.pow_add, ← Nat.mul_assoc, ← Int.natCast_ediv, Nat.mul_div_cancel _ (Nat.two_pow_pos _), Int.natCast_mul, ipow_cast]
  · rw [if_neg h0]
    have e1 : c = (e + c).toNat + (-e).toNat := by omega
    rw [Int.fdiv_eq_ediv_of_nonneg _ (Int.le_of_lt (ipow_pos _)), ipow_cast, ← Int.natCast_ediv, ← Int.natCast_ediv]
    congr 1
    have e2 : 2 ^ c = 2 ^ (e + c).toNat * 2 ^ (-e).toNat := by rw [← Nat.pow_add, ← e1]
    rw [e2, ← Nat.div_div_eq_div_mul, Nat.mul_div_cancel _ (Nat.two_pow_pos _)]
theorem trunc_val {x : UInt64} {a : Bool} {m : Nat} {e : Int} (hx : decode x = .fin a m e) (h : 0 ≤ val x) : Flt.toInt truncOf x = val x / ((2 ^ 1074 : Nat) : Int) := by
  have he := decode_ge hx
  have e0 : Flt.toInt truncOf x = truncOf a m e := by unfold Flt.toInt; rw [hx]
  rw [e0]
  have hv := val_eq hx
  have key := floor_val m 1074 e he
  have ce : (e + ((1074 : Nat) : Int)).toNat = (e + 1074).toNat := rfl
  rw [ce] at key
  cases a with
  | false =>
    simp only [truncOf, Bool.false_eq_true, if_false]
    rw [key, hv]
    unfold sgn; simp only [Bool.false_eq_true, if_false]
  | true =>
    have hm : m * 2 ^ (e + 1074).toNat = 0 := by
      rw [hv] at h; unfold sgn at h; simp only [if_true] at h; omega
    rw [hm] at hv key
    rw [hv]
    simp only [truncOf, if_true, ceilOf, Bool.not_true]
    rw [key]
    unfold sgn
    simp only [if_true]
    generalize ((2 ^ 1074 : Nat) : Int) = P
    rw [show ((0 : Nat) : Int) = 0 from rfl, Int.neg_zero, Int.zero_ediv, Int.neg_zero]
theorem HV.trunc {x : UInt64} {a : Int} (hx : HV x a) (h : 0 ≤ a) : Flt.toInt truncOf x = a / 2 := by
  obtain ⟨⟨_, _, _, dx⟩, v⟩ := hx
  have hp := ipow_pos 1073
  rw [trunc_val dx (by rw [v]; exact Int.mul_nonneg h (Int.le_of_lt hp)), v]
  have e : ((2 ^ 1074 : Nat) : Int) = 2 ^ 1073 * 2 := by rw [← ipow_cast, ← Int.pow_succ]
  rw [e, ← Int.ediv_ediv_of_nonneg (Int.le_of_lt hp), Int.mul_ediv_cancel _ (Int.ne_of_gt hp)]
/-! part F2 -/
theorem fmod_right {x y : UInt64} {a b : Bool} {m k : Nat} {e f : Int} (hx : decode x = .fin a m e) (hy : decode y = .fin b k f) (hk : k ≠ 0) :
    Right (fmod x y) a ((val x).natAbs % (val y).natAbs) 1 := by
  have he := decode_ge hx
  have hf := decode_ge hy
  have hd : fmod x y = ofBin a ((m * 2 ^ (e - min e f).toNat) % (k * 2 ^ (f - min e f).toNat)) (min e f) := by
    unfold fmod
    rw [hx, hy]
    simp only
    rw [if_neg (by simpa using hk)]
    rfl
  rw [hd, val_natAbs hx, val_natAbs hy]
  unfold ofBin
  refine ofFrac_right (shift_pos _ _ _ (by decide)) ?_ (by decide)
  have hs := shift_one ((m * 2 ^ (e - min e f).toNat) % (k * 2 ^ (f - min e f).toNat)) (min e f) 1074 (by omega)
  have ce : (min e f + ((1074 : Nat) : Int)).toNat = (min e f + 1074).toNat := rfl
  rw [ce] at hs
  rw [Nat.mul_one]
  refine hs.trans (congrArg (· * _) ?_)
  have e1 : (e - min e f).toNat + (min e f + 1074).toNat = (e + 1074).toNat := by omega
  have e2 : (f - min e f).toNat + (min e f + 1074).toNat = (f + 1074).toNat := by omega
  rw [← Nat.mul_mod_mul_right, Nat.mul_assoc, Nat.mul_assoc, ← Nat.pow_add, ← Nat.pow_add, e1, e2]

theorem HV.fin_ne {y : UInt64} {b : Bool} {k : Nat} {f z : Int} (hy : decode y = .fin b k f) (hv : val y = z * 2 ^ 1073) (hz : z ≠ 0) : k ≠ 0 := by
  intro hk
  have h := val_natAbs hy
  rw [hv, natAbs_pow, hk] at h
  have h2 : z.natAbs * 2 ^ 1073 = 0 := h.trans (Nat.zero_mul _)
  rcases Nat.mul_eq_zero.mp h2 with q | q
  · omega
  · exact absurd q (Nat.ne_of_gt (Nat.two_pow_pos _))

theorem sgn_zero (a : Bool) : sgn a 0 = 0 := by cases a <;> rfl

theorem HV.fmod {x y : UInt64} {p q : Int} (hx : HV x p) (hy : HV y q) (hp : 0 ≤ p) (hp2 : p < 2 ^ 53) (hq : 0 < q) : HV (Float64.fmod x y) (p % q) := by
  obtain ⟨⟨a, m, e, dx⟩, vx⟩ := hx
  obtain ⟨⟨b, k, f, dy⟩, vy⟩ := hy
  have R := fmod_right dx dy (HV.fin_ne dy vy (by omega))
  rw [vx, vy, natAbs_pow, natAbs_pow, Nat.mul_mod_mul_right] at R
  have hm : p.natAbs % q.natAbs ≤ p.natAbs := Nat.mod_le _ _
  have hr : (p % q).natAbs = p.natAbs % q.natAbs := by
    rw [← Int.natAbs_emod_of_nonneg hp]
  obtain ⟨h1, h2⟩ := right_exact (by omega) R
  refine ⟨h1, ?_⟩
  rw [h2]
  cases a with
  | false =>
    unfold sgn
    simp only [Bool.false_eq_true, if_false]
    have h3 : 0 ≤ p % q := Int.emod_nonneg _ (by omega)
    rw [← hr, Int.natCast_mul, ← ipow_cast]
    congr 1
    omega
  | true =>
    have : p = 0 := by
      rw [val_eq dx] at vx
      unfold sgn at vx
      simp only [if_true] at vx
      have h0 := Int.mul_nonneg hp (Int.le_of_lt (ipow_pos 1073))
      rw [← vx] at h0
      have h4 : p * 2 ^ 1073 = 0 := by rw [← vx]; omega
      exact (pow_ne _ _).mp h4
    subst this
    rw [show (0 : Int).natAbs % q.natAbs = 0 from Nat.zero_mod _, Nat.zero_mul, sgn_zero, Int.zero_emod]
    exact (Int.zero_mul _).symm

theorem lt_zero {y : UInt64} {q : Int} (hy : HV y q) : Float64.lt y (Float64.zero false) = decide (q < 0) := by
  unfold Float64.lt
  rw [HV.cmp hy (HV.zero false)]
  rcases Int.lt_trichotomy q 0 with h | h | h
  · rw [Int.compare_eq_lt.mpr h]; simp [h]
  · subst h; rfl
  · rw [Int.compare_eq_gt.mpr h]
    have : ¬ q < 0 := by omega
    simp [this]

theorem HV.mod {x y : UInt64} {p q : Int} (hx : HV x p) (hy : HV y q) (hp : 0 ≤ p) (hp2 : p < 2 ^ 53) (hq : 0 < q) : HV (Float64.divmod x y).2 (p % q) := by
  have hm := HV.fmod hx hy hp hp2 hq
  unfold Float64.divmod
  simp only
  by_cases hz : Float64.isZero (Float64.fmod x y) = true
  · rw [if_pos hz]
    have h0 : p % q = 0 := by rw [HV.isZero hm] at hz; simpa using hz
    rw [h0]
    show HV (Float64.copysign (Float64.zero false) y) 0
    unfold Float64.copysign
    rw [HV.notNaN (HV.zero false)]
    simp only [Bool.false_eq_true, if_false]
    have : (Float64.zero false).toNat % 2 ^ 63 = 0 := by rfl
    rw [this]
    exact HV.zero _
  · rw [if_neg hz, lt_zero hy, lt_zero hm]
    have h1 : ¬ q < 0 := by omega
    have h2 : ¬ p % q < 0 := by have := Int.emod_nonneg p (b := q) (by omega); omega
    simp only [h1, h2, decide_false, bne_self_eq_false, Bool.false_eq_true, if_false]
    exact hm

theorem near_mono {W D v v1 v2 : Nat} (h1 : D * v1 ≤ W) (h2 : W ≤ D * v2) (h12 : v1 ≤ v2) (d1 : dist W (D * v) ≤ dist W (D * v1)) (d2 : dist W (D * v) ≤ dist W (D * v2)) (hD : 0 < D) : v1 ≤ v ∧ v ≤ v2 := by
  refine ⟨?_, ?_⟩
  · rcases Nat.lt_or_ge v v1 with h | h
    · have := Nat.mul_lt_mul_of_pos_left h hD
      unfold dist at d1
      omega
    · exact h
  · rcases Nat.lt_or_ge v2 v with h | h
    · have := Nat.mul_lt_mul_of_pos_left h hD
      unfold dist at d2
      omega
    · exact h

theorem div_trunc_nat (n d : Nat) (P : Nat) (hd : 0 < d) (hd2 : d < 2 ^ 18) (v : Nat) (hP : 0 < P) (h1 : (n / d) * (2 ^ 18 * P) ≤ v) (h2 : v ≤ ((n / d + 1) * 2 ^ 18 - 1) * P) : v / (2 ^ 18 * P) = n / d := by
  have h3 : ((n / d + 1) * 2 ^ 18 - 1) * P < (n / d + 1) * (2 ^ 18 * P) := by
    rw [← Nat.mul_assoc]
    exact Nat.mul_lt_mul_of_pos_right (Nat.sub_lt (Nat.mul_pos (Nat.succ_pos _) (by decide)) (by decide)) hP
  have h4 : 0 < 2 ^ 18 * P := Nat.mul_pos (by decide) hP
  have h5 : v / (2 ^ 18 * P) < n / d + 1 := (Nat.div_lt_iff_lt_mul h4).mpr (Nat.lt_of_le_of_lt h2 h3)
  have h6 : n / d ≤ v / (2 ^ 18 * P) := (Nat.le_div_iff_mul_le h4).mpr h1
  exact Nat.le_antisymm (Nat.lt_succ_iff.mp h5) h6

theorem upper_ok (N D : Nat) (hD : 0 < D) (hD2 : D < 2 ^ 18) : N * 2 ^ 18 ≤ D * ((N / D + 1) * 2 ^ 18 - 1) := by
  have hdm := Nat.div_add_mod N D
  have hml := Nat.mod_lt N hD
  have g1 : N + 1 ≤ D * (N / D + 1) := by rw [Nat.mul_add, Nat.mul_one]; omega
  rw [Nat.mul_sub, Nat.mul_one, ← Nat.mul_assoc]
  have g2 : (N + 1) * 2 ^ 18 ≤ D * (N / D + 1) * 2 ^ 18 := Nat.mul_le_mul_right _ g1
  rw [Nat.add_mul] at g2
  refine Nat.le_sub_of_add_le (Nat.le_trans (Nat.add_le_add_left ?_ _) g2)
  omega

theorem HV.truncdiv {x y : UInt64} {n d : Int} (hx : HV x (2 * n)) (hy : HV y (2 * d)) (hn : 0 ≤ n) (hn2 : n < 2 ^ 30) (hd : 0 < d) (hd2 : d < 2 ^ 18) :
    Float64.isFinite (Float64.div x y) = true ∧ Flt.toInt truncOf (Float64.div x y) = n / d := by
  obtain ⟨⟨a, m, e, dx⟩, vx⟩ := hx
  obtain ⟨⟨b, k, f, dy⟩, vy⟩ := hy
  have R := div_right dx dy (HV.fin_ne dy vy (by omega))
  rw [vx, vy, natAbs_pow, natAbs_pow] at R
  obtain ⟨N, rfl⟩ := Int.eq_ofNat_of_zero_le hn
  obtain ⟨D, rfl⟩ := Int.eq_ofNat_of_zero_le (Int.le_of_lt hd)
  have eN : (2 * (N : Int)).natAbs = 2 * N := by omega
  have eD : (2 * (D : Int)).natAbs = 2 * D := by omega
  rw [eN, eD] at R
  have hD : 0 < D := by omega
  have hD2 : D < 2 ^ 18 := by omega
  have hN2 : N < 2 ^ 30 := by omega
  have hpos : 0 < 2 * D * 2 ^ 1073 := Nat.mul_pos (by omega) (Nat.two_pow_pos _)
  -- scale
  have hW : 2 * N * 2 ^ 1073 * 2 ^ 1074 = N * 2 ^ 1074 * 2 ^ 1074 := by rw [mulP, ← Nat.pow_succ']
  have hDD : 2 * D * 2 ^ 1073 = D * 2 ^ 1074 := by rw [mulP, ← Nat.pow_succ']
  rw [hW, hDD] at R
  rw [hDD] at hpos
  have hbig : N * 2 ^ 1074 * 2 ^ 1074 < D * 2 ^ 1074 * 2 ^ 1600 := by
    have q1 : N * 2 ^ 1074 < 2 ^ 30 * 2 ^ 1074 := Nat.mul_lt_mul_of_pos_right hN2 (Nat.two_pow_pos _)
    have q2 : N * 2 ^ 1074 * 2 ^ 1074 < 2 ^ 30 * 2 ^ 1074 * 2 ^ 1074 := Nat.mul_lt_mul_of_pos_right q1 (Nat.two_pow_pos _)
    have q3 : 2 ^ 30 * 2 ^ 1074 * 2 ^ 1074 ≤ 1 * 2 ^ 1074 * 2 ^ 1600 := by
      rw [Nat.one_mul, Nat.mul_comm (2 ^ 30), Nat.mul_assoc, ← Nat.pow_add]
      exact Nat.mul_le_mul_left _ (Nat.pow_le_pow_right (by decide) (by decide))
    have q4 : 1 * 2 ^ 1074 * 2 ^ 1600 ≤ D * 2 ^ 1074 * 2 ^ 1600 := Nat.mul_le_mul_right _ (Nat.mul_le_mul_right _ hD)
    exact Nat.lt_of_lt_of_le q2 (Nat.le_trans q3 q4)
  obtain ⟨t, ht, hti, hdist⟩ := right_small hpos R hbig
  have hqN : N / D ≤ N := Nat.div_le_self _ _
  have hdm := Nat.div_add_mod N D
  have hml := Nat.mod_lt N hD
  obtain ⟨t1, _, hv1⟩ := rep (N / D) 1074 (by omega) (by decide) (by decide)
  obtain ⟨t2, _, hv2⟩ := rep ((N / D + 1) * 2 ^ 18 - 1) 1056 (by omega) (by decide) (by decide)
  have d1 := hdist t1
  have d2 := hdist t2
  have e74 : (2 : Nat) ^ 1074 = 2 ^ 18 * 2 ^ 1056 := by rw [← Nat.pow_add]
  have hv1' : V t1 = (N / D) * (2 ^ 18 * 2 ^ 1056) := by rw [hv1, ← e74]
  have b1 : D * 2 ^ 1074 * V t1 ≤ N * 2 ^ 1074 * 2 ^ 1074 := by
    rw [hv1, Nat.mul_comm (N / D), ← Nat.mul_assoc, Nat.mul_comm _ (N / D), ← Nat.mul_assoc, ← Nat.mul_assoc, Nat.mul_comm (N / D) D]
    exact Nat.mul_le_mul_right _ (Nat.mul_le_mul_right _ (Nat.mul_div_le _ _))
  have b2 : N * 2 ^ 1074 * 2 ^ 1074 ≤ D * 2 ^ 1074 * V t2 := by
    rw [hv2]
    have g := upper_ok N D hD hD2
    have g3 : N * 2 ^ 1074 * 2 ^ 1074 = N * 2 ^ 18 * (2 ^ 1056 * 2 ^ 1074) := by
      have gg : ∀ A B C : Nat, N * (A * B) * C = N * A * (B * C) := fun A B C => by ac_rfl
      rw [e74]; exact gg _ _ _
    have g4 : D * 2 ^ 1074 * (((N / D + 1) * 2 ^ 18 - 1) * 2 ^ 1056) = D * ((N / D + 1) * 2 ^ 18 - 1) * (2 ^ 1056 * 2 ^ 1074) := by
      generalize (N / D + 1) * 2 ^ 18 - 1 = u
      generalize (2 : Nat) ^ 1074 = A
      generalize (2 : Nat) ^ 1056 = B
      ac_rfl
    rw [g3, g4]
    exact Nat.mul_le_mul_right _ g
  have h12 : V t1 ≤ V t2 := by
    rw [hv1', hv2, ← Nat.mul_assoc]
    exact Nat.mul_le_mul_right _ (by omega)
  obtain ⟨m1, m2⟩ := near_mono b1 b2 h12 d1 d2 hpos
  rw [hv1'] at m1
  rw [hv2] at m2
  have key := div_trunc_nat N D (2 ^ 1056) hD hD2 (V t) (Nat.two_pow_pos _) m1 m2
  rw [← e74] at key
  have hdec := decode_pack (a != b) hti
  have hsgn : sgn (a != b) (V t) = (V t : Int) := by
    by_cases hN0 : N = 0
    · -- zero quotient: V t = 0
      have d0 := hdist 0
      rw [V_zero, hN0] at d0
      have z : V t = 0 := by
        have hz : dist (0 * 2 ^ 1074 * 2 ^ 1074) (D * 2 ^ 1074 * 0) = 0 := by
          rw [Nat.zero_mul, Nat.zero_mul, Nat.mul_zero]; rfl
        rw [hz] at d0
        have d0' := dist_zero (Nat.le_zero.mp d0)
        rw [Nat.zero_mul, Nat.zero_mul] at d0'
        rcases Nat.mul_eq_zero.mp d0'.symm with q | q
        · exact absurd q (Nat.ne_of_gt hpos)
        · exact q
      rw [z]; exact sgn_zero _
    · have sa : a = false := by
        cases a
        · rfl
        · exfalso
          rw [val_eq dx] at vx
          unfold sgn at vx
          simp only [if_true] at vx
          have h0 : (0 : Int) < 2 * (N : Int) * 2 ^ 1073 := Int.mul_pos (by omega) (ipow_pos _)
          omega
      have sb : b = false := by
        cases b
        · rfl
        · exfalso
          rw [val_eq dy] at vy
          unfold sgn at vy
          simp only [if_true] at vy
          have h0 : (0 : Int) < 2 * (D : Int) * 2 ^ 1073 := Int.mul_pos (by omega) (ipow_pos _)
          omega
      rw [sa, sb]; rfl
  obtain ⟨mm, ee, hdd, hvv⟩ := hdec
  rw [ht]
  refine ⟨by unfold Float64.isFinite; rw [hdd], ?_⟩
  have hval : val (pack (a != b) t) = (V t : Int) := by rw [val_pack _ hti, hsgn]
  rw [trunc_val hdd (by rw [hval]; exact Int.natCast_nonneg _), hval, ← Int.natCast_ediv, key, Int.natCast_ediv]
end
end Mine
open PySem PySem.W PyProof.Rows PySem.Calls PySem.Float64
namespace Mine
/-! part A1 -/
set_option maxRecDepth 100000 in
set_option maxHeartbeats 8000000 in
open_top hd for PySem.Challenge.rw_ak5005_01
theorem offA1 : True := by
  w_top off
  trivial

/-! part B0 -/
theorem offB0 : True := by
  w_top off
  trivial
abbrev prg : Program := Challenge.rw_ak5005_01.row.prog
noncomputable abbrev KK (w : World) : Frag := hd.heap_39 w.params

noncomputable def p0 : Program := { (default : Program) with main := { (default : PySem.Module) with body := [(PySem.Stmt.Import
            (names := [{ name := "sys", asname := none, pos := ⟨1, 17, 1, 22⟩ : PySem.Alias }])
            (pos := ⟨1, 0, 1, 22⟩))] } }
abbrev loose0 : List Str := ["trunc", "amod", "EPOCH", "HAAB", "TZOLKIN", "to_jd", "from_jd", "to_haab", "to_tzolkin", "lc_to_haab", "lc_to_tzolkin", "lc_to_haab_tzolkin", "_haab_count", "_tzolkin_count", "next_haab", "next_tzolkin", "next_tzolkin_haab", "_law_names", "_law_moons", "_law_asked", "law"]

theorem t1 : recsOf p0 = [] := rfl
theorem t2 : litsOf p0 = [] := rfl
theorem t3 : clssOf p0 loose0 = [] := rfl
theorem t4 : ownsOf p0 = [] := rfl
theorem t5 : importsNone p0 = false := rfl
/-! part B1 -/
theorem offB1 : True := by
  w_top off
  trivial
/-- what every contract asks of the state in which a def is called -/
structure Cx (w : World) (A₀ : Around) (base h₀ : Heap) (outer : List Env) (L : Addr) (m mg mb : Str → Option Value) (mean : ExcName → Option Value) (s : Shared) (news : List (Addr × Obj)) (cs : Scope) (dp un n : Nat) : Prop where
  B : Below A₀ base outer h₀
  F : Fr h₀ L s.heap m
  X : (hd.heap_39 w.params).In h₀
  N : News h₀ L s.heap news
  T : Top p0 loose0 mean mg mb h₀
  hk : cs.kind = .function
  XB : (hd.heap_39 w.params).In base
  TB : Top p0 loose0 mean mg mb base
  dp : dp + n < recursionLimit
  un : un + 8 * n < cLine


theorem dec_epoch : decode 4693266160550936576 = .fin false 5018948458250240 (-33) := by unfold decode; kernel_rfl
theorem HV.epoch : HV 4693266160550936576 1168565 := by
  refine ⟨⟨_, _, _, dec_epoch⟩, ?_⟩
  rw [val_eq dec_epoch]
  decide +kernel
theorem dec_half : decode 4602678819172646912 = .fin false 4503599627370496 (-53) := by unfold decode; kernel_rfl
theorem HV.half : HV 4602678819172646912 1 := by
  refine ⟨⟨_, _, _, dec_half⟩, ?_⟩
  rw [val_eq dec_half]
  decide +kernel
/-! part R1 -/
theorem offR1 : True := by
  w_top off
  trivial
/-- y is finite and its truncation is k -/
def TV (y : UInt64) (k : Int) : Prop := Float64.isFinite y = true ∧ Flt.toInt truncOf y = k

theorem fin_decode {y : UInt64} (h : Float64.isFinite y = true) : ∃ sg m e, decode y = .fin sg m e := by
  unfold Float64.isFinite at h
  cases hd : decode y with
  | nan => rw [hd] at h; cases h
  | inf _ => rw [hd] at h; cases h
  | fin sg m e => exact ⟨_, _, _, rfl⟩

section
variable {prog : Program} {w : World} {A : Around} {E : Value → Shared → Prop} {s : Shared} {Q : Value → Shared → Prop} {x y : UInt64} {t u : Tok} {a b n : Int}

theorem r_add_fi (hx : HV x a) (hb : (2 * n).natAbs < 2 ^ 53 ∧ (a + 2 * n).natAbs < 2 ^ 53) (h : ∀ z c, HV z c → c = a + 2 * n → Q (.float z s.toks) { s with toks := s.toks + 1 }) :
    wpAny (model prog w) A (binaryOp .Add (.float x t) (.int n u)) Q E s :=
  add_fi_fits (Nat.lt_of_lt_of_le (show n.natAbs < 2 ^ 53 by omega) (Nat.pow_le_pow_right (by decide) (by decide))) (h _ _ (HV.add hx (HV.ofInt n hb.1) hb.2) rfl)
theorem r_add_if (hx : HV x a) (hb : (2 * n).natAbs < 2 ^ 53 ∧ (2 * n + a).natAbs < 2 ^ 53) (h : ∀ z c, HV z c → c = 2 * n + a → Q (.float z s.toks) { s with toks := s.toks + 1 }) :
    wpAny (model prog w) A (binaryOp .Add (.int n u) (.float x t)) Q E s :=
  add_if_fits (Nat.lt_of_lt_of_le (show n.natAbs < 2 ^ 53 by omega) (Nat.pow_le_pow_right (by decide) (by decide))) (h _ _ (HV.add (HV.ofInt n hb.1) hx hb.2) rfl)
theorem r_sub_ff (hx : HV x a) (hy : HV y b) (hb : (a - b).natAbs < 2 ^ 53) (h : ∀ z c, HV z c → c = a - b → Q (.float z s.toks) { s with toks := s.toks + 1 }) :
    wpAny (model prog w) A (binaryOp .Sub (.float x t) (.float y u)) Q E s := sub_float (h _ _ (HV.sub hx hy hb) rfl)
theorem notInf_ofInt (hn : (2 * n).natAbs < 2 ^ 53) : ¬ Float64.isInf (Float64.ofInt n) = true := by rw [HV.notInf (HV.ofInt n hn)]; exact Bool.false_ne_true
theorem notZero_ofInt (hn : (2 * n).natAbs < 2 ^ 53) (h0 : n ≠ 0) : ¬ Float64.isZero (Float64.ofInt n) = true := by
  rw [HV.isZero (HV.ofInt n hn), decide_eq_true_eq]; omega
theorem r_mod_fi (hx : HV x a) (hb : 0 ≤ a ∧ a < 2 ^ 53 ∧ 0 < n ∧ (2 * n).natAbs < 2 ^ 53) (h : ∀ z c, HV z c → c = a % (2 * n) → Q (.float z s.toks) { s with toks := s.toks + 1 }) :
    wpAny (model prog w) A (binaryOp .Mod (.float x t) (.int n u)) Q E s :=
  AutoFloatOps.mod_fi_2 (notInf_ofInt hb.2.2.2) (notZero_ofInt hb.2.2.2 (by omega)) (h _ _ (HV.mod hx (HV.ofInt n hb.2.2.2) hb.1 hb.2.1 (by omega)) rfl)
theorem r_div_fi (hx : HV x a) (hb : 0 ≤ a ∧ a < 2 ^ 30 ∧ a % 2 = 0 ∧ 0 < n ∧ n < 2 ^ 18) (h : ∀ z k, TV z k → k = a / 2 / n → Q (.float z s.toks) { s with toks := s.toks + 1 }) :
    wpAny (model prog w) A (binaryOp .Div (.float x t) (.int n u)) Q E s := by
  have ha : a = 2 * (a / 2) := by omega
  have hn : (2 * n).natAbs < 2 ^ 53 := by omega
  have hx' : HV x (2 * (a / 2)) := ha ▸ hx
  have k := HV.truncdiv hx' (HV.ofInt n hn) (by omega) (by omega) hb.2.2.2.1 hb.2.2.2.2
  exact AutoFloatOps.truediv_fi_2 (notInf_ofInt hn) (notZero_ofInt hn (by omega)) (h _ _ k rfl)
theorem r_trunc_hv (hx : HV x a) (hb : 0 ≤ a) (h : ∀ k, k = a / 2 → Q (.int k s.toks) { s with toks := s.toks + 1 }) : wpAny (model prog w) A (call (.builtin "math.trunc") [.float x t]) Q E s := by
  obtain ⟨sg, m, e, hd⟩ := fin_decode (HV.finite hx)
  have ht : truncOf sg m e = a / 2 := by rw [← HV.trunc hx hb]; unfold Flt.toInt; rw [hd]
  exact Flt.trunc_via (call_gives F.slot_float_trunc (typeIs_float s x t) F.entry_float_trunc (F.args_float_trunc_1 _) (Flt.gives_trunc t hd) (by rw [ht]; exact h _ rfl))
theorem r_trunc_tv {k : Int} (hx : TV x k) (h : Q (.int k s.toks) { s with toks := s.toks + 1 }) : wpAny (model prog w) A (call (.builtin "math.trunc") [.float x t]) Q E s := by
  obtain ⟨sg, m, e, hd⟩ := fin_decode hx.1
  have ht : truncOf sg m e = k := by rw [← hx.2]; unfold Flt.toInt; rw [hd]
  exact Flt.trunc_via (call_gives F.slot_float_trunc (typeIs_float s x t) F.entry_float_trunc (F.args_float_trunc_1 _) (Flt.gives_trunc t hd) (by rw [ht]; exact h))
theorem r_int_hv (hx : HV x a) (hb : 0 ≤ a) (h : ∀ k, k = a / 2 → Q (.int k s.toks) { s with toks := s.toks + 1 }) : wpAny (model prog w) A (call (.type "int") [.float x t]) Q E s := by
  obtain ⟨sg, m, e, hd⟩ := fin_decode (HV.finite hx)
  have ht : truncOf sg m e = a / 2 := by rw [← HV.trunc hx hb]; unfold Flt.toInt; rw [hd]
  exact call_int_float hd (by rw [ht]; exact h _ rfl)
theorem cmp_beq_lt (a b : Int) : ((some (compare a b) : Option Ordering) == some .lt) = decide (a < b) := by
  rcases Int.lt_trichotomy a b with h | h | h
  · rw [Int.compare_eq_lt.mpr h]; simp [h]
  · subst h; simp
  · rw [Int.compare_eq_gt.mpr h]
    have : ¬ a < b := by omega
    simp [this]
theorem cmp_beq_eq (a b : Int) : ((some (compare a b) : Option Ordering) == some .eq) = decide (a = b) := by
  rcases Int.lt_trichotomy a b with h | h | h
  · rw [Int.compare_eq_lt.mpr h]
    have : ¬ a = b := by omega
    simp [this]
  · subst h; simp
  · rw [Int.compare_eq_gt.mpr h]
    have : ¬ a = b := by omega
    simp [this]
theorem r_lt_ff (hx : HV x a) (hy : HV y b) (h : Q (.bool (decide (a < b))) s) : wpAny (model prog w) A (compareOp .Lt (.float x t) (.float y u)) Q E s :=
  AutoFloatOps.lt_0 (by rw [HV.cmp hx hy, cmp_beq_lt]; exact h)
theorem r_eq_ff (hx : HV x a) (hy : HV y b) (h : Q (.bool (decide (a = b))) s) : wpAny (model prog w) A (compareOp .Eq (.float x t) (.float y u)) Q E s :=
  AutoFloatOps.eq_0 (by rw [HV.cmp hx hy, cmp_beq_eq]; exact h)
theorem r_ne_ff (hx : HV x a) (hy : HV y b) (h : Q (.bool (decide (a ≠ b))) s) : wpAny (model prog w) A (compareOp .NotEq (.float x t) (.float y u)) Q E s :=
  AutoFloatOps.ne_0 (by
    have : (Float64.cmp x y != some Ordering.eq) = decide (a ≠ b) := by rw [HV.cmp hx hy, bne, cmp_beq_eq, decide_not]
    rw [this]; exact h)
theorem r_lt_fi (hx : HV x a) (h : Q (.bool (decide (a < 2 * n))) s) : wpAny (model prog w) A (compareOp .Lt (.float x t) (.int n u)) Q E s :=
  lt_fi (by rw [HV.cmpInt hx, cmp_beq_lt]; exact h)
end

local macro_rules | `(tactic| walk_at "binaryOp Add float int") => `(tactic| (k_here; (with_reducible show wpAny _ _ (binaryOp _ (Value.float _ _) (Value.int _ _)) _ _ _); k_dflt (refine' r_add_fi ?k1 ?k2 ?_; (case k1 => first | with_reducible assumption | exact HV.epoch | exact HV.half); (case k2 => omega)); intro z' c' hz' hc'))
local macro_rules | `(tactic| walk_at "binaryOp Add int float") => `(tactic| (k_here; (with_reducible show wpAny _ _ (binaryOp _ (Value.int _ _) (Value.float _ _)) _ _ _); k_dflt (refine' r_add_if ?k1 ?k2 ?_; (case k1 => first | with_reducible assumption | exact HV.epoch | exact HV.half); (case k2 => omega)); intro z' c' hz' hc'))
local macro_rules | `(tactic| walk_at "binaryOp Sub float float") => `(tactic| (k_here; (with_reducible show wpAny _ _ (binaryOp _ (Value.float _ _) (Value.float _ _)) _ _ _); k_dflt (refine' r_sub_ff ?k1 ?k2 ?k3 ?_; (case k1 => first | with_reducible assumption | exact HV.epoch | exact HV.half); (case k2 => first | with_reducible assumption | exact HV.epoch | exact HV.half); (case k3 => omega)); intro z' c' hz' hc'))
local macro_rules | `(tactic| walk_at "binaryOp Mod float int") => `(tactic| (k_here; (with_reducible show wpAny _ _ (binaryOp _ (Value.float _ _) (Value.int _ _)) _ _ _); k_dflt (refine' r_mod_fi ?k1 ?k2 ?_; (case k1 => first | with_reducible assumption | exact HV.epoch | exact HV.half); (case k2 => omega)); intro z' c' hz' hc'))
local macro_rules | `(tactic| walk_at "binaryOp Div float int") => `(tactic| (k_here; (with_reducible show wpAny _ _ (binaryOp _ (Value.float _ _) (Value.int _ _)) _ _ _); k_dflt (refine' r_div_fi ?k1 ?k2 ?_; (case k1 => first | with_reducible assumption | exact HV.epoch | exact HV.half); (case k2 => omega)); intro z' c' hz' hc'))
local macro_rules | `(tactic| walk_at "call builtin:math.trunc") => `(tactic| (k_here; (with_reducible show wpAny _ _ (call _ [Value.float _ _]) _ _ _); k_dflt (refine' r_trunc_hv ?k1 ?k2 ?_; (case k1 => first | with_reducible assumption | exact HV.epoch | exact HV.half); (case k2 => omega)); intro c' hc'))
local macro_rules | `(tactic| walk_at "call builtin:math.trunc") => `(tactic| (k_here; (with_reducible show wpAny _ _ (call _ [Value.float _ _]) _ _ _); k_dflt (refine' r_trunc_tv ?k1 ?_; (case k1 => with_reducible assumption))))
local macro_rules | `(tactic| walk_at "call type:int") => `(tactic| (k_here; (with_reducible show wpAny _ _ (call _ [Value.float _ _]) _ _ _); k_dflt (refine' r_int_hv ?k1 ?k2 ?_; (case k1 => first | with_reducible assumption | exact HV.epoch | exact HV.half); (case k2 => omega)); intro c' hc'))
local macro_rules | `(tactic| walk_at "compareOp Lt float float") => `(tactic| (k_here; (with_reducible show wpAny _ _ (compareOp _ (Value.float _ _) (Value.float _ _)) _ _ _); k_dflt (refine' r_lt_ff ?k1 ?k2 ?_; (case k1 => first | with_reducible assumption | exact HV.epoch | exact HV.half); (case k2 => first | with_reducible assumption | exact HV.epoch | exact HV.half))))
local macro_rules | `(tactic| walk_at "compareOp NotEq float float") => `(tactic| (k_here; (with_reducible show wpAny _ _ (compareOp _ (Value.float _ _) (Value.float _ _)) _ _ _); k_dflt (refine' r_ne_ff ?k1 ?k2 ?_; (case k1 => first | with_reducible assumption | exact HV.epoch | exact HV.half); (case k2 => first | with_reducible assumption | exact HV.epoch | exact HV.half))))
local macro_rules | `(tactic| walk_at "compareOp Lt float int") => `(tactic| (k_here; (with_reducible show wpAny _ _ (compareOp _ (Value.float _ _) (Value.int _ _)) _ _ _); k_dflt (refine' r_lt_fi ?k1 ?_; (case k1 => first | with_reducible assumption | exact HV.epoch | exact HV.half))))
/-! part R2 -/
theorem offR2 : True := by
  w_top off
  trivial
def moons : List Str := ["Pop", "Wo'", "Zip", "Sotz'", "Sek", "Xul", "Yaxk'in'", "Mol", "Ch'en", "Yax", "Sak'", "Keh", "Mak", "K'ank'in", "Muwan'", "Pax", "K'ayab", "Kumk'u", "Wayeb'"]
def names20 : List Str := ["Imix'", "Ik'", "Ak'b'al", "K'an", "Chikchan", "Kimi", "Manik'", "Lamat", "Muluk", "Ok", "Chuwen", "Eb'", "B'en", "Ix", "Men", "K'ib'", "Kab'an", "Etz'nab'", "Kawak", "Ajaw"]
def moonAt (k : Int) : Str := moons.getD k.toNat ""
def nameAt (k : Int) : Str := names20.getD k.toNat ""

/-- the values are the texts -/
def StrsAre : List Value → List Str → Prop
  | .str x _ :: vs, y :: ys => x = y ∧ StrsAre vs ys
  | [], [] => True
  | _, _ => False
theorem StrsAre.length : ∀ {vs : List Value} {ys : List Str}, StrsAre vs ys → vs.length = ys.length
  | .str _ _ :: vs, _ :: ys, h => by rw [List.length_cons, List.length_cons, StrsAre.length h.2]
  | [], [], _ => rfl
theorem StrsAre.get : ∀ {vs : List Value} {ys : List Str}, StrsAre vs ys → ∀ i, i < ys.length → ∃ t, vs[i]? = some (.str (ys.getD i "") t)
  | .str x t :: vs, y :: ys, h, 0, _ => ⟨t, by obtain ⟨h1, _⟩ := h; subst h1; rfl⟩
  | .str x t :: vs, y :: ys, h, i + 1, hi => by
    obtain ⟨u, hu⟩ := StrsAre.get h.2 i (by simpa using hi)
    exact ⟨u, by simpa using hu⟩
  | [], [], _, i, hi => by simp at hi

abbrev tup (vs : List Value) : Obj := { cls := .type "tuple", data := .seq vs.toArray }

section
variable {prog : Program} {w : World} {A : Around} {E : Value → Shared → Prop} {s : Shared} {Q : Value → Shared → Prop} {h₀ : Heap} {L l : Addr} {m : Str → Option Value} {news : List (Addr × Obj)} {t u : Tok} {k : Int}

theorem r_item_strs {value slice : PySem.Expr} {vs : List Value} {tab : List Str} (hl : s.heap.IsList l vs.toArray) (hv : StrsAre vs tab) (hk : 0 ≤ k) (hk2 : k < (tab.length : Int)) (hsz : tab.length < 2 ^ 60)
    (h : ∀ t, Q (.str (tab.getD k.toNat "") t) s)
    (hs : subscripted slice false (.ref l) (.int k u) = operate [.ref l, .int k u] (getItem (.ref l) (.int k u)) := by with_unfolding_all rfl) :
    wpAny (model prog w) A (subscriptTail value slice (.ref l) (.int k u)) Q E s := by
  obtain ⟨t, ht⟩ := hv.get k.toNat (by omega)
  exact tail_any hl.typeIs slot_list_getitem.lookup (wpAny_getItem_list hl hk (by omega) (by simpa using ht) (h t)) hs

theorem haab_list (X : (hd.heap_39 w.params).In h₀) (F : Fr h₀ L s.heap m) : ∃ vs, s.heap.IsList 50 vs.toArray ∧ StrsAre vs moons :=
  ⟨_, ⟨_, F.keep _ _ (X 50 _ rfl), rfl, _, rfl⟩, by repeat (first | exact trivial | refine ⟨rfl, ?_⟩)⟩
theorem tzol_list (X : (hd.heap_39 w.params).In h₀) (F : Fr h₀ L s.heap m) : ∃ vs, s.heap.IsList 51 vs.toArray ∧ StrsAre vs names20 :=
  ⟨_, ⟨_, F.keep _ _ (X 51 _ rfl), rfl, _, rfl⟩, by repeat (first | exact trivial | refine ⟨rfl, ?_⟩)⟩
theorem r_item_haab {value slice : PySem.Expr} (X : (hd.heap_39 w.params).In h₀) (F : Fr h₀ L s.heap m) (hk : 0 ≤ k ∧ k < 19) (h : ∀ t, Q (.str (moonAt k) t) s)
    (hs : subscripted slice false (.ref 50) (.int k u) = operate [.ref 50, .int k u] (getItem (.ref 50) (.int k u)) := by with_unfolding_all rfl) :
    wpAny (model prog w) A (subscriptTail value slice (.ref 50) (.int k u)) Q E s := by
  obtain ⟨vs, hl, hv⟩ := haab_list X F
  exact r_item_strs hl hv hk.1 (by show k < 19; exact hk.2) (by decide) h hs
theorem r_item_tzol {value slice : PySem.Expr} (X : (hd.heap_39 w.params).In h₀) (F : Fr h₀ L s.heap m) (hk : 0 ≤ k ∧ k < 20) (h : ∀ t, Q (.str (nameAt k) t) s)
    (hs : subscripted slice false (.ref 51) (.int k u) = operate [.ref 51, .int k u] (getItem (.ref 51) (.int k u)) := by with_unfolding_all rfl) :
    wpAny (model prog w) A (subscriptTail value slice (.ref 51) (.int k u)) Q E s := by
  obtain ⟨vs, hl, hv⟩ := tzol_list X F
  exact r_item_strs hl hv hk.1 (by show k < 20; exact hk.2) (by decide) h hs
end
local macro_rules | `(tactic| walk_at "subscriptTail") => `(tactic| (k_here; (with_reducible show wpAny _ _ (subscriptTail _ _ (Value.ref 50) (Value.int _ _)) _ _ _); k_dflt (refine' r_item_haab ?k1 ?k2 ?k3 ?_ ?k4; (case k1 => k_asm); (case k2 => k_asm); (case k3 => omega); (case k4 => with_unfolding_all rfl)); intro t'))
local macro_rules | `(tactic| walk_at "subscriptTail") => `(tactic| (k_here; (with_reducible show wpAny _ _ (subscriptTail _ _ (Value.ref 51) (Value.int _ _)) _ _ _); k_dflt (refine' r_item_tzol ?k1 ?k2 ?k3 ?_ ?k4; (case k1 => k_asm); (case k2 => k_asm); (case k3 => omega); (case k4 => with_unfolding_all rfl)); intro t'))
local macro_rules | `(tactic| ktr_room) => `(tactic| ((try simp only [depth_under_make, depth_under_kw, depth_in1, depth_deeper, depth_caller, depth_mark]); (try dsimp only [ktrTop]); omega))
local macro_rules | `(tactic| k_room) => `(tactic| ktr_room)
local macro_rules | `(tactic| ktr_units) => `(tactic| ((try simp only [units_in1, units_deeper, Around.mark_units, units_caller]); (try dsimp only [ktrTop]); omega))
local macro_rules | `(tactic| k_units) => `(tactic| ktr_units)
/-! part C1 -/
theorem offC1 : True := by
  w_top off
  trivial
section
variable {w : World} {dp un : Nat} {gd : Option (List Code)} {cn : Str} {cs : Scope} {a : Addr} {ccd : Value} {cl : List (Str × Addr)} {outer : List Env} {A₀ : Around} {base h₀ : Heap} {L : Addr} {m mg mb : Str → Option Value} {mean : ExcName → Option Value} {s : Shared} {Q E : Value → Shared → Prop} {news : List (Addr × Obj)}
set_option maxRecDepth 100000 in
set_option maxHeartbeats 4000000 in
theorem to_jd_c (C : Cx w A₀ base h₀ outer L m mg mb mean s news cs dp un 2) {b k t u i : Int} {t1 t2 t3 t4 t5 : Tok} (hb : 0 ≤ b ∧ b < 1000) (hk' : 0 ≤ k ∧ k < 20) (ht : 0 ≤ t ∧ t < 20) (hu : 0 ≤ u ∧ u < 18) (hi : 0 ≤ i ∧ i < 20)
    (ret : ∀ x z tk h' tk', HV x z → z = 1168565 + 2 * (b * 144000 + k * 7200 + t * 360 + u * 20 + i) → Fr h₀ L h' m → News h₀ L h' news → Q (.float x tk) { s with heap := h', toks := tk' }) :
    wpAny (model Challenge.rw_ak5005_01.row.prog w) (ktrTop dp un gd cn cs L a ccd cl outer) (call (.ref 58) [.int b t1, .int k t2, .int t t3, .int u t4, .int i t5]) Q E s := by
  obtain ⟨B, F, X, N, T, hk, XB, TB, hdp, hun⟩ := C
  revert X; k_fill; intro X
  refine wpAny_call ?_
  k_dflt cell_enter
  k_steps
  refine' ret _ _ _ _ _ ?hx ?hz ?hF ?hN
  case hx => assumption
  case hF => k_asm
  case hN => k_asm
  case hz => omega
set_option maxRecDepth 100000 in
set_option maxHeartbeats 4000000 in
theorem names_c (C : Cx w A₀ base h₀ outer L m mg mb mean s news cs dp un 2)
    (ret : ∀ D vs c h' tk', StrsAre vs names20 → Fr h₀ L h' m → News h₀ L h' ((D, listOf vs.toArray c) :: news) → (∀ q ∈ news, q.1 < D) → Q (.ref D) { s with heap := h', toks := tk' }) :
    wpAny (model Challenge.rw_ak5005_01.row.prog w) (ktrTop dp un gd cn cs L a ccd cl outer) (call (.ref 142) []) Q E s := by
  obtain ⟨B, F, X, N, T, hk, XB, TB, hdp, hun⟩ := C
  revert X; k_fill; intro X
  refine wpAny_call ?_
  k_dflt cell_enter
  k_steps
  refine' ret _ _ _ _ _ ?hs ?hF ?hN ?hl
  case hN => k_asm
  case hF => k_asm
  case hl => k_asm
  case hs => (repeat (first | exact trivial | refine ⟨rfl, ?_⟩))
set_option maxRecDepth 100000 in
set_option maxHeartbeats 4000000 in
theorem moons_c (C : Cx w A₀ base h₀ outer L m mg mb mean s news cs dp un 2)
    (ret : ∀ D vs c h' tk', StrsAre vs moons → Fr h₀ L h' m → News h₀ L h' ((D, listOf vs.toArray c) :: news) → (∀ q ∈ news, q.1 < D) → Q (.ref D) { s with heap := h', toks := tk' }) :
    wpAny (model Challenge.rw_ak5005_01.row.prog w) (ktrTop dp un gd cn cs L a ccd cl outer) (call (.ref 149) []) Q E s := by
  obtain ⟨B, F, X, N, T, hk, XB, TB, hdp, hun⟩ := C
  revert X; k_fill; intro X
  refine wpAny_call ?_
  k_dflt cell_enter
  k_steps
  refine' ret _ _ _ _ _ ?hs ?hF ?hN ?hl
  case hN => k_asm
  case hF => k_asm
  case hl => k_asm
  case hs => (repeat (first | exact trivial | refine ⟨rfl, ?_⟩))
end
/-! part C2 -/
theorem offC2 : True := by
  w_top off
  trivial
section
variable {w : World} {dp un : Nat} {gd : Option (List Code)} {cn : Str} {cs : Scope} {a : Addr} {ccd : Value} {cl : List (Str × Addr)} {outer : List Env} {A₀ : Around} {base h₀ : Heap} {L : Addr} {m mg mb : Str → Option Value} {mean : ExcName → Option Value} {s : Shared} {Q E : Value → Shared → Prop} {news : List (Addr × Obj)}
set_option maxRecDepth 100000 in
set_option maxHeartbeats 4000000 in
theorem to_haab_c (C : Cx w A₀ base h₀ outer L m mg mb mean s news cs dp un 2) {x : UInt64} {z : Int} {t1 : Tok} (hx : HV x z) (hz : z % 2 = 1 ∧ 1168565 ≤ z ∧ z < 2 ^ 30)
    (ret : ∀ D p i j t2 t3 h' tk', p = z / 2 - 584282 → i = (p + 348) % 365 % 20 → j = (p + 348) % 365 / 20 → Fr h₀ L h' m → News h₀ L h' ((D, tup [.int i t2, .str (moonAt j) t3]) :: news) → (∀ q ∈ news, q.1 < D) → Q (.ref D) { s with heap := h', toks := tk' }) :
    wpAny (model Challenge.rw_ak5005_01.row.prog w) (ktrTop dp un gd cn cs L a ccd cl outer) (call (.ref 72) [.float x t1]) Q E s := by
  obtain ⟨B, F, X, N, T, hk, XB, TB, hdp, hun⟩ := C
  revert X; k_fill; intro X
  refine wpAny_call ?_
  k_dflt cell_enter
  k_steps
  refine' ret _ _ _ _ _ _ _ _ rfl ?hi ?hj ?hF ?hN ?hl
  case hN => k_asm
  case hF => k_asm
  case hl => k_asm
  case hi => omega
  case hj => omega
set_option maxRecDepth 100000 in
set_option maxHeartbeats 4000000 in
theorem to_tzolkin_c (C : Cx w A₀ base h₀ outer L m mg mb mean s news cs dp un 3) {x : UInt64} {z : Int} {t1 : Tok} (hx : HV x z) (hz : z % 2 = 1 ∧ 1168565 ≤ z ∧ z < 2 ^ 30)
    (ret : ∀ D p i j t2 t3 h' tk', p = z / 2 - 584282 → i = (p + 3) % 13 + 1 → j = (p + 19) % 20 → Fr h₀ L h' m → News h₀ L h' ((D, tup [.int i t2, .str (nameAt j) t3]) :: news) → (∀ q ∈ news, q.1 < D) → Q (.ref D) { s with heap := h', toks := tk' }) :
    wpAny (model Challenge.rw_ak5005_01.row.prog w) (ktrTop dp un gd cn cs L a ccd cl outer) (call (.ref 79) [.float x t1]) Q E s := by
  obtain ⟨B, F, X, N, T, hk, XB, TB, hdp, hun⟩ := C
  revert X; k_fill; intro X
  refine wpAny_call ?_
  k_dflt cell_enter
  k_steps
  all_goals (
    refine' ret _ _ _ _ _ _ _ _ rfl ?hi ?hj ?hF ?hN ?hl
    case hN => k_asm
    case hF => k_asm
    case hl => k_asm
    case hi => omega
    case hj => omega)

set_option maxRecDepth 100000 in
set_option maxHeartbeats 4000000 in
theorem from_jd_c (C : Cx w A₀ base h₀ outer L m mg mb mean s news cs dp un 2) {x : UInt64} {z : Int} {t1 : Tok} (hx : HV x z) (hz : z % 2 = 1 ∧ 1168565 ≤ z ∧ z < 2 ^ 30)
    (ret : ∀ D p i1 i2 i3 i4 i5 t1 t2 t3 t4 t5 h' tk', p = z / 2 - 584282 → i1 = p / 144000 → i2 = p % 144000 / 7200 → i3 = p % 7200 / 360 → i4 = p % 360 / 20 → i5 = p % 20 → Fr h₀ L h' m → News h₀ L h' ((D, tup [.int i1 t1, .int i2 t2, .int i3 t3, .int i4 t4, .int i5 t5]) :: news) → (∀ q ∈ news, q.1 < D) → Q (.ref D) { s with heap := h', toks := tk' }) :
    wpAny (model Challenge.rw_ak5005_01.row.prog w) (ktrTop dp un gd cn cs L a ccd cl outer) (call (.ref 65) [.float x t1]) Q E s := by
  obtain ⟨B, F, X, N, T, hk, XB, TB, hdp, hun⟩ := C
  revert X; k_fill; intro X
  refine wpAny_call ?_
  k_dflt cell_enter
  k_steps
  all_goals (
    refine' ret _ _ _ _ _ _ _ _ _ _ _ _ _ _ rfl ?h1 ?h2 ?h3 ?h4 ?h5 ?hF ?hN ?hl
    case hN => k_asm
    case hF => k_asm
    case hl => k_asm
    case h1 => omega
    case h2 => omega
    case h3 => omega
    case h4 => omega
    case h5 => omega)
end
/-! part C3 -/
theorem offC3 : True := by
  w_top off
  trivial
local macro_rules | `(tactic| walk_at "call ref") => `(tactic| (k_here; (with_reducible show wpAny _ _ (call (Value.ref 58) [_, _, _, _, _]) _ _ _); k_dflt (refine' to_jd_c (Cx.mk ?cB ?cF ?cX ?cN ?cT ?ck ?cXB ?cTB ?cd ?cu) ?k1 ?k2 ?k3 ?k4 ?k5 ?_; (case cB => k_asm); (case cF => k_asm); (case cX => k_asm); (case cN => k_asm); (case cT => k_asm); (case ck => first | exact rfl | assumption); (case cXB => assumption); (case cTB => assumption); (case cd => ktr_room); (case cu => ktr_units); (case k1 => omega); (case k2 => omega); (case k3 => omega); (case k4 => omega); (case k5 => omega)); intro x' z' t' h' tk' hz' hc' F' N'))
local macro_rules | `(tactic| walk_at "call ref") => `(tactic| (k_here; (with_reducible show wpAny _ _ (call (Value.ref 72) [_]) _ _ _); k_dflt (refine' to_haab_c (Cx.mk ?cB ?cF ?cX ?cN ?cT ?ck ?cXB ?cTB ?cd ?cu) ?k1 ?k2 ?_; (case cB => k_asm); (case cF => k_asm); (case cX => k_asm); (case cN => k_asm); (case cT => k_asm); (case ck => first | exact rfl | assumption); (case cXB => assumption); (case cTB => assumption); (case cd => ktr_room); (case cu => ktr_units); (case k1 => first | with_reducible assumption | exact HV.epoch | exact HV.half); (case k2 => omega)); intro D' p' i' j' t2' t3' h' tk' hp' hi' hj' F' N' l1; (try k_lt l1)))
local macro_rules | `(tactic| walk_at "call ref") => `(tactic| (k_here; (with_reducible show wpAny _ _ (call (Value.ref 79) [_]) _ _ _); k_dflt (refine' to_tzolkin_c (Cx.mk ?cB ?cF ?cX ?cN ?cT ?ck ?cXB ?cTB ?cd ?cu) ?k1 ?k2 ?_; (case cB => k_asm); (case cF => k_asm); (case cX => k_asm); (case cN => k_asm); (case cT => k_asm); (case ck => first | exact rfl | assumption); (case cXB => assumption); (case cTB => assumption); (case cd => ktr_room); (case cu => ktr_units); (case k1 => first | with_reducible assumption | exact HV.epoch | exact HV.half); (case k2 => omega)); intro D' p' i' j' t2' t3' h' tk' hp' hi' hj' F' N' l1; (try k_lt l1)))
section
variable {w : World} {dp un : Nat} {gd : Option (List Code)} {cn : Str} {cs : Scope} {a : Addr} {ccd : Value} {cl : List (Str × Addr)} {outer : List Env} {A₀ : Around} {base h₀ : Heap} {L : Addr} {m mg mb : Str → Option Value} {mean : ExcName → Option Value} {s : Shared} {Q E : Value → Shared → Prop} {news : List (Addr × Obj)}
set_option maxRecDepth 100000 in
set_option maxHeartbeats 4000000 in
theorem lc_haab_c (C : Cx w A₀ base h₀ outer L m mg mb mean s news cs dp un 3) {b k t u i p : Int} {t1 t2 t3 t4 t5 : Tok} (hb : 0 ≤ b ∧ b < 1000) (hk' : 0 ≤ k ∧ k < 20) (ht : 0 ≤ t ∧ t < 20) (hu : 0 ≤ u ∧ u < 18) (hi : 0 ≤ i ∧ i < 20) (hp : p = b * 144000 + k * 7200 + t * 360 + u * 20 + i)
    (ret : ∀ D i j t2 t3 h' tk', i = (p + 348) % 365 % 20 → j = (p + 348) % 365 / 20 → Fr h₀ L h' m → News h₀ L h' ((D, tup [.int i t2, .str (moonAt j) t3]) :: news) → (∀ q ∈ news, q.1 < D) → Q (.ref D) { s with heap := h', toks := tk' }) :
    wpAny (model Challenge.rw_ak5005_01.row.prog w) (ktrTop dp un gd cn cs L a ccd cl outer) (call (.ref 86) [.int b t1, .int k t2, .int t t3, .int u t4, .int i t5]) Q E s := by
  obtain ⟨B, F, X, N, T, hk, XB, TB, hdp, hun⟩ := C
  revert X; k_fill; intro X
  refine wpAny_call ?_
  k_dflt cell_enter
  k_steps
  refine' ret _ _ _ _ _ _ _ ?hi ?hj ?hF ?hN ?hl
  case hN => k_asm
  case hF => k_asm
  case hl => k_asm
  case hi => omega
  case hj => omega
set_option maxRecDepth 100000 in
set_option maxHeartbeats 4000000 in
theorem lc_tzol_c (C : Cx w A₀ base h₀ outer L m mg mb mean s news cs dp un 4) {b k t u i p : Int} {t1 t2 t3 t4 t5 : Tok} (hb : 0 ≤ b ∧ b < 1000) (hk' : 0 ≤ k ∧ k < 20) (ht : 0 ≤ t ∧ t < 20) (hu : 0 ≤ u ∧ u < 18) (hi : 0 ≤ i ∧ i < 20) (hp : p = b * 144000 + k * 7200 + t * 360 + u * 20 + i)
    (ret : ∀ D i j t2 t3 h' tk', i = (p + 3) % 13 + 1 → j = (p + 19) % 20 → Fr h₀ L h' m → News h₀ L h' ((D, tup [.int i t2, .str (nameAt j) t3]) :: news) → (∀ q ∈ news, q.1 < D) → Q (.ref D) { s with heap := h', toks := tk' }) :
    wpAny (model Challenge.rw_ak5005_01.row.prog w) (ktrTop dp un gd cn cs L a ccd cl outer) (call (.ref 93) [.int b t1, .int k t2, .int t t3, .int u t4, .int i t5]) Q E s := by
  obtain ⟨B, F, X, N, T, hk, XB, TB, hdp, hun⟩ := C
  revert X; k_fill; intro X
  refine wpAny_call ?_
  k_dflt cell_enter
  k_steps
  refine' ret _ _ _ _ _ _ _ ?hi ?hj ?hF ?hN ?hl
  case hN => k_asm
  case hF => k_asm
  case hl => k_asm
  case hi => omega
  case hj => omega
end
/-! part R3 -/
theorem offR3 : True := by
  w_top off
  trivial
open PySem.MeetsSeq PySem.Builtin

def isS (k : Str) (v : Value) : Bool := match v with | .str x _ => x == k | _ => false
theorem strs_eqGives {vs : List Value} {ys : List Str} (h : StrsAre vs ys) (k : Str) (t : Tok) : ∀ y, y ∈ vs.toArray → EqGives y (.str k t) (isS k y) := by
  intro y hy
  have hy' : y ∈ vs := by simpa using hy
  clear hy
  induction vs generalizing ys with
  | nil => cases hy'
  | cons v vs ih =>
    cases v with
    | str x u =>
      cases ys with
      | nil => exact h.elim
      | cons y' ys =>
        rcases List.mem_cons.mp hy' with rfl | hm
        · exact eqGives_str x k u t
        · exact ih h.2 hm
    | _ => cases ys <;> exact h.elim
theorem strs_isS {vs : List Value} {ys : List Str} (h : StrsAre vs ys) (k : Str) (i : Nat) (hi : i < ys.length) (hi' : i < vs.length) : isS k vs[i] = (ys.getD i "" == k) := by
  obtain ⟨t, ht⟩ := h.get i hi
  have : vs[i] = .str (ys.getD i "") t := by
    rw [List.getElem?_eq_getElem hi'] at ht
    exact Option.some.inj ht
  rw [this]; rfl

theorem index_loop_none (l : Addr) (items : Array Value) (n : Nat) (u : Tok) (e : Value → Bool) (he : ∀ y, y ∈ items → EqGives y (.str "Nobody" u) (e y)) (hno : ∀ m (hm : m < items.size), e items[m] = false) (upto : Int) (hup : (items.size : Int) ≤ upto) (k : Nat) :
    ∀ i : Nat, items.size - i = k → i ≤ items.size → Meets (Builtin.«list.index.loop» ⟨[.ref l, .str "Nobody" u, rawInt i, rawInt upto], []⟩)
      (fun A R s => s.heap.get? l = some { cls := .type "list", dict := none, data := .seq items n, slots := #[] } ∧ raisesNew "ValueError" A R s) := by
  induction k with
  | zero =>
    intro i hk hle prog w A R s h
    obtain ⟨hp, g, d, tk, os⟩ := s; obtain ⟨hl, h⟩ := h
    wp_walk using wpAny_loadPart' hl
    have hi : (if (i : Int) < upto then items[((i : Nat) : Int).toNat]? else none) = none := by
      split
      · simp; omega
      · rfl
    rw [hi]
    refine wpAny_bind (wpAny_rule ?_)
    refine wpAny_bind (wpAny_pyRepr_str ?_ (by decide +kernel))
    unfold List.listRaiseStr
    refine wpAny_bind (wpAny_mkStr (wpAny_bind ?_) (by decide +kernel))
    unfold newExc newTuple
    refine wpAny_bind (wpAny_newObj_type ?_)
    refine wpAny_bind (m := firstArgMember _ _) (wpAny_of_eq (a := Value.none) (by simp only [firstArgMember, plainExc_ValueError.first]; rfl) ?_)
    rw [plainExc_ValueError.own]
    refine wpAny_newObj_type ?_
    unfold raiseNew
    refine wpAny_bind (wpAny_handled ?_)
    rw [show A.in1.handled = none from h.1]
    first
      | refine wpAny_throw ?_
      | refine wpAny_bind (wpAny_pure (wpAny_throw ?_))
    exact h.2 _ _ _ ⟨fun b o hb => Heap.get?_push_of_some _ (Heap.get?_push_of_some _ hb), Heap.get?_none_of_le (by simp), _, .ref hp.objs.size, Heap.get?_push_size _ rfl, rfl, by simp⟩
  | succ k ih =>
    intro i hk hle prog w A R s h
    obtain ⟨hp, g, d, tk, os⟩ := s; obtain ⟨hl, h⟩ := h
    have hlt : i < items.size := by omega
    have hst : (i : Int) < upto := by omega
    wp_walk using wpAny_loadPart' hl
    have hi : (if (i : Int) < upto then items[((i : Nat) : Int).toNat]? else none) = some items[i] := by simp [hst, hlt]
    have hc : ((i : Int) + 1) = ((i + 1 : Nat) : Int) := by push_cast; rfl
    rw [hi]
    refine wpAny_bind (he _ (Array.getElem_mem hlt) prog w _ _ _ _ ?_)
    rw [hno i hlt]
    wp_walk
    rw [hc]
    exact ⟨plainId_quiet plain_index_loop _, codeAny_builtin entry_index_loop (by
      rw [Around.under_plainId plain_index_loop _]
      exact ih (i + 1) (by omega) (by omega) prog w A R _ ⟨hl, h⟩)⟩
theorem list_index_none (l : Addr) (items : Array Value) (n : Nat) (u : Tok) (e : Value → Bool) (he : ∀ y, y ∈ items → EqGives y (.str "Nobody" u) (e y)) (hno : ∀ m (hm : m < items.size), e items[m] = false) (hsz : (items.size : Int) ≤ 2 ^ 63 - 1) :
    Meets (Builtin.«list.index» ⟨[.ref l, .str "Nobody" u], []⟩)
      (fun A R s => s.heap.get? l = some { cls := .type "list", dict := none, data := .seq items n, slots := #[] } ∧ raisesNew "ValueError" A R s) := by
  intro prog w A R s h
  obtain ⟨hp, g, d, tk, os⟩ := s; obtain ⟨hl, h⟩ := h
  wp_walk using wpAny_loadPart' hl
  have a1 : ((fun i : Int => if i < 0 then max 0 (i + (items.size : Int)) else i) ((none : Option Int).getD 0)) = ((0 : Nat) : Int) := by simp
  have a2 : ((fun i : Int => if i < 0 then max 0 (i + (items.size : Int)) else i) ((none : Option Int).getD (2 ^ 63 - 1))) = 2 ^ 63 - 1 := by simp
  rw [a1, a2]
  exact ⟨plainId_quiet plain_index_loop _, codeAny_builtin entry_index_loop (by
    rw [Around.under_plainId plain_index_loop _]
    exact index_loop_none l items n u e he hno (2 ^ 63 - 1) hsz _ 0 rfl (Nat.zero_le _) prog w A R _ ⟨hl, h⟩)⟩

section
variable {prog : Program} {w : World} {A : Around} {E : Value → Shared → Prop} {s : Shared} {Q : Value → Shared → Prop} {l : Addr} {t : Tok} {vs : List Value} {ys : List Str}
theorem r_index_found {n : Nat} {k : Str} {j : Nat} (ho : s.heap.get? l = some { cls := .type "list", dict := none, data := .seq vs.toArray n, slots := #[] }) (hv : StrsAre vs ys) (hsz : ys.length < 2 ^ 60) (hj : j < ys.length) (hk : ys.getD j "" = k)
    (hno : ∀ i, i < j → ys.getD i "" ≠ k) (h : Q (.int (j : Nat) s.toks) { s with toks := s.toks + 1 }) :
    wpAny (model prog w) A (call (.builtin "list.index") [.ref l, .str k t]) Q E s := by
  have hlen := hv.length
  refine call_meets PySem.F.slot_list_index ⟨_, ho, rfl⟩ PySem.F.entry_list_index (PySem.F.args_list_index_2 _ _)
    (list_index l vs.toArray n (.str k t) (isS k) (strs_eqGives hv k t) j (by simpa [hlen] using hj) (by omega) ?_ ?_) ⟨ho, h⟩
  · show isS k vs[j] = true
    rw [strs_isS hv k j hj (by omega), hk]; exact beq_self_eq_true k
  · intro i hi hlt
    have hi' : i < vs.length := by simpa using hi
    show isS k vs[i] = false
    rw [strs_isS hv k i (by omega) hi']
    exact beq_false_of_ne (hno i hlt)
theorem r_index_none {n : Nat} (hA : A.handled = none) (ho : s.heap.get? l = some { cls := .type "list", dict := none, data := .seq vs.toArray n, slots := #[] }) (hv : StrsAre vs ys) (hsz : ys.length < 2 ^ 60)
    (hno : ∀ i, i < ys.length → ys.getD i "" ≠ "Nobody") (hE : ∀ h' tk e, Heap.NewExc s.heap h' e "ValueError" → E (.ref e) { s with heap := h', toks := tk }) :
    wpAny (model prog w) A (call (.builtin "list.index") [.ref l, .str "Nobody" t]) Q E s := by
  have hlen := hv.length
  refine call_meets PySem.F.slot_list_index ⟨_, ho, rfl⟩ PySem.F.entry_list_index (PySem.F.args_list_index_2 _ _)
    (list_index_none l vs.toArray n t (isS "Nobody") (strs_eqGives hv "Nobody" t) ?_ (by simp; omega)) ⟨ho, hA, hE⟩
  intro i hi
  have hi' : i < vs.length := by simpa using hi
  show isS "Nobody" vs[i] = false
  rw [strs_isS hv _ i (by omega) hi']
  exact beq_false_of_ne (hno i (by omega))

theorem moons_inj : ∀ j, j < 19 → ∀ i, i < j → moons.getD i "" ≠ moons.getD j "" := by decide +kernel
theorem moons_no : ∀ i, i < moons.length → moons.getD i "" ≠ "Nobody" := by decide +kernel
theorem names_inj : ∀ j, j < 20 → ∀ i, i < j → names20.getD i "" ≠ names20.getD j "" := by decide +kernel
theorem names_no : ∀ i, i < names20.length → names20.getD i "" ≠ "Nobody" := by decide +kernel
end
section
variable {w : World} {A : Around} {E : Value → Shared → Prop} {s : Shared} {Q : Value → Shared → Prop} {h₀ : Heap} {L : Addr} {m : Str → Option Value} {t : Tok}
theorem haab_obj (X : (hd.heap_39 w.params).In h₀) (F : Fr h₀ L s.heap m) : ∃ vs n, s.heap.get? 50 = some { cls := .type "list", dict := none, data := .seq vs.toArray n, slots := #[] } ∧ StrsAre vs moons :=
  ⟨_, _, F.keep _ _ (X 50 _ rfl), by repeat (first | exact trivial | refine ⟨rfl, ?_⟩)⟩
theorem tzol_obj (X : (hd.heap_39 w.params).In h₀) (F : Fr h₀ L s.heap m) : ∃ vs n, s.heap.get? 51 = some { cls := .type "list", dict := none, data := .seq vs.toArray n, slots := #[] } ∧ StrsAre vs names20 :=
  ⟨_, _, F.keep _ _ (X 51 _ rfl), by repeat (first | exact trivial | refine ⟨rfl, ?_⟩)⟩
/-- HAAB.index(month) -/
theorem r_index_haab {mi : Int} {mo : Str} (hA : A.handled = none) (X : (hd.heap_39 w.params).In h₀) (F : Fr h₀ L s.heap m) (hm : (0 ≤ mi ∧ mi < 19 ∧ mo = moonAt mi) ∨ (mi = -1 ∧ mo = "Nobody"))
    (h : 0 ≤ mi → mi < 19 → Q (.int mi s.toks) { s with toks := s.toks + 1 }) (hE : mi = -1 → ∀ h' tk e, Heap.NewExc s.heap h' e "ValueError" → E (.ref e) { s with heap := h', toks := tk }) :
    wpAny (model Challenge.rw_ak5005_01.row.prog w) A (call (.builtin "list.index") [.ref 50, .str mo t]) Q E s := by
  obtain ⟨vs, n, ho, hv⟩ := haab_obj X F
  rcases hm with ⟨h0, h1, rfl⟩ | ⟨h0, rfl⟩
  · refine r_index_found (j := mi.toNat) ho hv (by decide) (by show mi.toNat < 19; omega) rfl (moons_inj _ (by omega)) ?_
    rw [Int.toNat_of_nonneg h0]; exact h h0 h1
  · exact r_index_none hA ho hv (by decide) moons_no (hE h0)
theorem r_index_tzol {mi : Int} {mo : Str} (hA : A.handled = none) (X : (hd.heap_39 w.params).In h₀) (F : Fr h₀ L s.heap m) (hm : (0 ≤ mi ∧ mi < 20 ∧ mo = nameAt mi) ∨ (mi = -1 ∧ mo = "Nobody"))
    (h : 0 ≤ mi → mi < 20 → Q (.int mi s.toks) { s with toks := s.toks + 1 }) (hE : mi = -1 → ∀ h' tk e, Heap.NewExc s.heap h' e "ValueError" → E (.ref e) { s with heap := h', toks := tk }) :
    wpAny (model Challenge.rw_ak5005_01.row.prog w) A (call (.builtin "list.index") [.ref 51, .str mo t]) Q E s := by
  obtain ⟨vs, n, ho, hv⟩ := tzol_obj X F
  rcases hm with ⟨h0, h1, rfl⟩ | ⟨h0, rfl⟩
  · refine r_index_found (j := mi.toNat) ho hv (by decide) (by show mi.toNat < 20; omega) rfl (names_inj _ (by omega)) ?_
    rw [Int.toNat_of_nonneg h0]; exact h h0 h1
  · exact r_index_none hA ho hv (by decide) names_no (hE h0)
theorem r_meth_haab {pl : Sem Bool} {Q : Value × List Value → Shared → Prop} (X : (hd.heap_39 w.params).In h₀) (F : Fr h₀ L s.heap m) (h : Q (.builtin "list.index", [.ref 50]) s) :
    wpAny (model Challenge.rw_ak5005_01.row.prog w) A (getMethod (.ref 50) "index" pl) Q E s := by
  obtain ⟨vs, n, ho, hv⟩ := haab_obj X F
  exact getMethod_builtin ⟨_, ho, rfl⟩ PySem.F.plainAttrs_list PySem.F.slot_list_index PySem.F.type_list_index (fun a e => by cases e; exact ⟨_, ho, rfl⟩) h
theorem r_meth_tzol {pl : Sem Bool} {Q : Value × List Value → Shared → Prop} (X : (hd.heap_39 w.params).In h₀) (F : Fr h₀ L s.heap m) (h : Q (.builtin "list.index", [.ref 51]) s) :
    wpAny (model Challenge.rw_ak5005_01.row.prog w) A (getMethod (.ref 51) "index" pl) Q E s := by
  obtain ⟨vs, n, ho, hv⟩ := tzol_obj X F
  exact getMethod_builtin ⟨_, ho, rfl⟩ PySem.F.plainAttrs_list PySem.F.slot_list_index PySem.F.type_list_index (fun a e => by cases e; exact ⟨_, ho, rfl⟩) h
end

/-- an exception of the built-in class X flies out of a def: what its caller has of it -/
def Rz (base g : Heap) (l : List Env) (e : Addr) (X : String) (news : List (Addr × Obj)) (h : Heap) : Prop := RaisedSN base g l e (.type X) news h ∧ g.UpToSlots h
section
variable {M : Model} {A : Around} {E : Value → Shared → Prop} {s' : Shared} {base g g₂ h : Heap} {outer : List Env} {L a e : Addr} {m : Str → Option Value} {name : Str} {scope : Scope} {cd : Value} {cx : List (Str × Addr)} {Q : Unit → Shared → Prop} {news : List (Addr × Obj)} {X : String}
theorem pushX {A : Around} {base h₀ h : Heap} {outer : List Env} {L a : Addr} {m : Str → Option Value} {name : Str} {scope : Scope} {cd : Value} {cl : List (Str × Addr)}
    (K : Below A base outer h₀) (F : Fr h₀ L h m) (hk : scope.kind = .function) : Below (A.deeper (envX name scope L a cd cl)) base (envX name scope L a cd cl :: outer) h := by
  have hnew : base.get? L = none := by
    cases hq : base.get? L with
    | none => rfl
    | some o => exact absurd (Nat.lt_of_lt_of_le (Heap.lt_size (K.stays L o hq)) F.above) (Nat.lt_irrefl _)
  exact ⟨Around.frames_deeper K.stack, fun b o e => F.keep b o (K.stays b o e),
    .cons (by show scope.kind ≠ .module; rw [hk]; decide) rfl F.ns hnew (K.frames.of_keeps fun b o e _ => ⟨o, F.keep b o e, rfl⟩)⟩
theorem memX {b : Addr} (hm : b ∈ (envX name scope L a cd cx :: outer).filterMap (·.frame)) : b = L ∨ b ∈ outer.filterMap (·.frame) := kts_mem (name := name) (scope := scope) (a := a) (cd := cd) hm
theorem z_leave_new (K : Below A base outer g) (hx : Heap.NewExc h s'.heap e X) (F : Fr g L h m) (N : News g L h news)
    (hQ : ∀ h', Rz base g outer e X news h' → Q () { s' with heap := h' }) (hk : scope.kind = .function := by rfl) :
    wpAny M (A.deeper (envX name scope L a cd cx)) (leaving (envX name scope L a cd cx) (.ref e)) Q E s' := by
  have K' := pushX (name := name) (a := a) (cd := cd) (cl := cx) K F hk
  let fs := (envX name scope L a cd cx :: outer).filterMap (·.frame)
  have hin : ∀ env ∈ (envX name scope L a cd cx :: outer), ∀ b, env.frame = some b → b ∈ fs := fun env he b hb => List.mem_filterMap.mpr ⟨env, he, hb⟩
  have st : base.StaysIn (hideAll h fs) := fun b o q => hideAll_get _ (K'.stays b o q) fun hm => by
    rw [(K'.frames.mem hm).1] at q; cases q
  have sg : ∀ b o, g.get? b = some o → b ∉ outer.filterMap (·.frame) → (hideAll h fs).get? b = some o := fun b o q nm => hideAll_get _ (F.keep b o q) fun hm => by
    rcases memX hm with z | z
    · rw [z, kts_self F] at q
      cases q
    · exact nm z
  have hl : ∀ q ∈ news, (hideAll h fs).get? q.1 = some q.2 ∧ g.get? q.1 = none ∧ base.get? q.1 = none := fun q hq => by
    refine ⟨hideAll_get _ (N q hq).1 fun hm => ?_, (N q hq).2.2, fresh_of_stays K.stays (N q hq).2.2⟩
    obtain ⟨env, he, hf⟩ := List.mem_filterMap.mp hm
    rcases List.mem_cons.mp he with rfl | he
    · exact (N q hq).2.1 (Option.some.inj hf).symm
    · obtain ⟨o, ho, _⟩ := (K.frames.mem (List.mem_filterMap.mpr ⟨env, he, hf⟩)).2
      rw [(N q hq).2.2] at ho; cases ho
  obtain ⟨ob, tp, he, hcls, hd⟩ := hx.there
  have hen : (hideAll h fs).get? e = none := by
    cases q : (hideAll h fs).get? e with
    | none => rfl
    | some o => have := of_hideAll _ q; rw [hx.new] at this; cases this
  refine wpAny_leaving_firstW (a0 := tp) K'.stack ((funFrames_hide K'.frames hin).of_keeps fun b o hb _ => ⟨o, hx.keeps b o hb, rfl⟩) rfl he (fun b o hb => hx.keeps b o (of_hideAll _ hb)) hen hd rfl rfl fun h' hL => ?_
  obtain ⟨k1, ⟨_, _, k2⟩, k3, k4⟩ := hL
  exact hQ h' ⟨⟨_, tp, st, sg, hl, k1, hen, k2, by rw [← hcls]; exact k3⟩, ((Heap.UpToSlots.of_keeps F.keep).trans (Heap.UpToSlots.of_keeps hx.keeps)).trans k4⟩
theorem z_leave_made {vs : List Value} (K : Below A base outer g) (hx : Heap.MadeExc h s'.heap e X vs) (F : Fr g L h m) (N : News g L h news)
    (hQ : ∀ h', Rz base g outer e X news h' → Q () { s' with heap := h' }) (hk : scope.kind = .function := by rfl) :
    wpAny M (A.deeper (envX name scope L a cd cx)) (leaving (envX name scope L a cd cx) (.ref e)) Q E s' :=
  z_leave_new K hx.newExc F N hQ hk
theorem z_leave_on (K : Below A base outer g) (F : Fr g L g₂ m) (R : Rz base g₂ (envX name scope L a cd cx :: outer) e X news s'.heap)
    (hQ : ∀ h', Rz base g outer e X news h' → Q () { s' with heap := h' }) :
    wpAny M (A.deeper (envX name scope L a cd cx)) (leaving (envX name scope L a cd cx) (.ref e)) Q E s' := by
  obtain ⟨⟨B, a0, hB, hBG, hl, hfl⟩, hsm⟩ := R
  refine wpAny_leaves_onW (Around.frames_deeper K.stack) rfl hfl fun h' x1 x2 => hQ h' ⟨⟨B, a0, hB, fun b o q nm => hBG b o (F.keep b o q) (fun hm => ?_), fun q hq => ⟨(hl q hq).1, kts_none F.keep (hl q hq).2.1, (hl q hq).2.2⟩, x1⟩, (Heap.UpToSlots.of_keeps F.keep).trans (hsm.trans x2)⟩
  rcases memX hm with z | z
  · rw [z, kts_self F] at q
    cases q
  · exact nm z
end
local macro_rules | `(tactic| walk_at "leaving ref") => `(tactic| (k_here; first
  | (k_dflt (refine' z_leave_on ?k1 ?k2 ?k3 ?_; (case k3 => assumption); (case k2 => assumption); (case k1 => assumption); k_whole); intro h' R')
  | (k_dflt (refine' z_leave_made ?k1 ?k0 ?k2 ?k3 ?_ ?k4; (case k0 => assumption); (case k1 => assumption); (case k2 => assumption); (case k3 => k_asm); (case k4 => exact rfl); k_whole); intro h' R')
  | (k_dflt (refine' z_leave_new ?k1 ?k0 ?k2 ?k3 ?_ ?k4; (case k0 => assumption); (case k1 => assumption); (case k2 => assumption); (case k3 => k_asm); (case k4 => exact rfl); k_whole); intro h' R')))
local macro_rules | `(tactic| walk_at "getMethod ref") => `(tactic| (k_here; (with_reducible show wpAny _ _ (getMethod (Value.ref 50) _ _) _ _ _); k_dflt (refine' r_meth_haab ?k1 ?k2 ?_; (case k1 => k_asm); (case k2 => k_asm))))
local macro_rules | `(tactic| walk_at "getMethod ref") => `(tactic| (k_here; (with_reducible show wpAny _ _ (getMethod (Value.ref 51) _ _) _ _ _); k_dflt (refine' r_meth_tzol ?k1 ?k2 ?_; (case k1 => k_asm); (case k2 => k_asm))))
local macro_rules | `(tactic| walk_at "call builtin:list.index") => `(tactic| (k_here; (with_reducible show wpAny _ _ (call _ [Value.ref 50, _]) _ _ _); k_dflt (refine' r_index_haab ?k0 ?k1 ?k2 ?k3 (fun hq0 hq1 => ?_) (fun hq0 h' tk' e' hx' => ?_); (case k0 => rfl); (case k1 => k_asm); (case k2 => k_asm); (case k3 => assumption))))
local macro_rules | `(tactic| walk_at "call builtin:list.index") => `(tactic| (k_here; (with_reducible show wpAny _ _ (call _ [Value.ref 51, _]) _ _ _); k_dflt (refine' r_index_tzol ?k0 ?k1 ?k2 ?k3 (fun hq0 hq1 => ?_) (fun hq0 h' tk' e' hx' => ?_); (case k0 => rfl); (case k1 => k_asm); (case k2 => k_asm); (case k3 => assumption))))
/-! part R5 -/
theorem offR5 : True := by
  w_top off
  trivial
/-- e: an exception of the class X whose entry T bears the mark fl, its context the value c2 -/
def TrX (h B : Heap) (e : Addr) (X : String) (a0 c2 fl : Value) : Prop :=
  ∃ oe vs T oT ts, h.get? e = some oe ∧ oe.cls = .type X ∧ vs[0]? = some a0 ∧ vs[2]? = some c2 ∧ oe.data = .fields vs ∧ vs[1]? = some (.ref T) ∧ B.get? T = none ∧ T ≠ e ∧ h.get? T = some oT ∧ oT.data = .fields ts ∧ ts[3]? = some fl
theorem TrX.at {h B : Heap} {e : Addr} {X : String} {a0 c2 fl : Value} (x : TrX h B e X a0 c2 fl) : h.TracedAtW B e (.type X) a0 fl :=
  let ⟨oe, vs, T, oT, ts, h1, h2, h3, _, h5, h6, h7, h8, h9, h10, h11⟩ := x; ⟨oe, vs, T, oT, ts, h1, ⟨h2, h3⟩, h5, h6, h7, h8, h9, h10, h11⟩
def HX (B : Heap) (l : List Env) (e : Addr) (X : String) (a0 c2 fl : Value) (h : Heap) : Prop := B.StaysIn h ∧ B.get? e = none ∧ h.FunFrames B l ∧ TrX h B e X a0 c2 fl
theorem HX.held {B : Heap} {l : List Env} {e L : Addr} {X : String} {a0 c2 : Value} {h : Heap} (x : HX B l e X a0 c2 (rawInt L) h) : Heap.HeldW B l e (.type X) a0 L h := ⟨x.1, x.2.1, x.2.2.1, x.2.2.2.at⟩

section
variable {M : Model} {A : Around} {E : Value → Shared → Prop} {s : Shared} {B : Heap} {env : Env} {outer l : List Env} {L e : Addr} {X : String} {a0 c2 fl : Value} {Q : Unit → Shared → Prop}
theorem x_note {oe : Obj} {vs : Array Value} (hfr : A.frames = some (env :: outer)) (hf : env.frame = some L) (hl : s.heap.FunFrames B (env :: outer)) (he : s.heap.get? e = some oe) (hc : oe.cls = .type X) (hd : oe.data = .fields vs)
    (h0 : vs[0]? = some a0) (h1 : vs[1]? = some .none) (h2 : vs[2]? = some c2) (hkb : B.StaysIn s.heap) (hen : B.get? e = none)
    (hQ : ∀ h', HX B (env :: outer) e X a0 c2 (rawInt L) h' → s.heap.UpToSlots h' → Q () { s with heap := h' }) : wpAny M A (noteFrame (.ref e) env) Q E s := by
  have hene : e ∉ (env :: outer).filterMap (·.frame) := fun hm => by
    obtain ⟨_, o, ho, hnf⟩ := hl.mem hm
    rw [he] at ho; injection ho with ho; subst ho; exact hnf vs hd
  have hsz : 1 < vs.size := (Array.getElem?_eq_some_iff.mp h1).1
  unfold noteFrame
  simp only [hf]
  refine wpAny_bind (wpAny_field he hd h1 ?_)
  rw [if_neg (by decide)]
  refine wpAny_bind (wpAny_frameOf_fun hfr hl hf fun h₁ hs₁ => ?_)
  refine wpAny_bind (wpAny_entryPlaceOf fun pl hpl => ?_)
  unfold EntryCells.newEntry newFields
  refine wpAny_bind (wpAny_newObj_type ?_ (hpl.sizeOk5 _ _ _ _ _))
  have he₁ : h₁.get? e = some oe := (hs₁.2.1 e hene).trans he
  have kb₁ : B.StaysIn h₁ := fun b o hbo => (hs₁.2.1 b fun hm => by rw [(hl.mem hm).1] at hbo; cases hbo).trans (hkb b o hbo)
  generalize hTB : ({ cls := Value.type "traceback", dict := none, data := Data.fields ([Value.none, .ref L, .none, rawInt L, .none] ++ (if pl.isEmpty then List.replicate 6 Value.none else pl)).toArray } : Obj) = tb
  have htd : tb.data = Data.fields ([Value.none, .ref L, .none, rawInt L, .none] ++ (if pl.isEmpty then List.replicate 6 Value.none else pl)).toArray := by rw [← hTB]
  have htf : tb.isFreed = false := by rw [← hTB]; rfl
  have he₂ := Heap.get?_push_of_some (h := h₁) tb he₁
  refine wpAny_setField he₂ hd hsz (hQ _ ?_ ?_)
  · have hTe : h₁.objs.size ≠ e := Nat.ne_of_gt (Heap.lt_size he₁)
    have hd₃ := Obj.data_mapFields hd (·.setIfInBounds 1 (Value.ref h₁.objs.size))
    have he₃ := Heap.get?_update_self (Obj.mapFields (·.setIfInBounds 1 (Value.ref h₁.objs.size))) he₂ (Obj.isFreed_of_fields hd₃)
    have hT₃ := (Heap.get?_update_other (h₁.push tb) (Obj.mapFields (·.setIfInBounds 1 (Value.ref h₁.objs.size))) (Ne.symm hTe)).trans (Heap.get?_push_size h₁ htf)
    have keep : ∀ b o, b ≠ e → h₁.get? b = some o → ((h₁.push tb).update e (Obj.mapFields (·.setIfInBounds 1 (Value.ref h₁.objs.size)))).get? b = some o := fun b o hbe hb => by
      rw [Heap.get?_update_other _ _ (Ne.symm hbe)]
      exact Heap.get?_push_of_some _ hb
    refine ⟨fun b o hbo => keep b o (fun q => by rw [q, hen] at hbo; cases hbo) (kb₁ b o hbo), hen, hl.of_keeps fun b o hb hnf => ?_, ?_⟩
    · obtain ⟨sl, hs⟩ := hs₁.2.2 b o hb
      exact ⟨_, keep b _ (fun q => by rw [q, he] at hb; injection hb with hb; subst hb; exact hnf vs hd) hs, rfl⟩
    · exact ⟨_, _, h₁.objs.size, _, _, he₃, (Obj.cls_mapFields _ _).trans hc, by rw [Array.getElem?_setIfInBounds_ne (by decide)]; exact h0, by rw [Array.getElem?_setIfInBounds_ne (by decide)]; exact h2, hd₃, by simp [hsz], kb₁.fresh, hTe, hT₃, htd, by first | (simp; done) | (rcases hpl with rfl | ⟨_, _, _, _, _, _, _, rfl⟩ <;> simp)⟩
  · intro b o hb hnf
    obtain ⟨sl, hs⟩ := hs₁.2.2 b o hb
    refine ⟨sl, ?_⟩
    rw [Heap.get?_update_other _ _ (fun q => by rw [← q, he] at hb; injection hb with hb; subst hb; exact hnf vs hd)]
    exact Heap.get?_push_of_some _ hs

theorem x_flight (f : Option Addr) (hh : HX B l e X a0 c2 fl s.heap)
    (hQ : ∀ h', HX B l e X a0 c2 (f.elim .none fun a => rawInt a) h' → s.heap.UpToSlots h' → Q () { s with heap := h' }) : wpAny M A (setFlight (.ref e) f) Q E s := by
  obtain ⟨hkb, hen, hl, oe, vs, T, oT, ts, he, hc, h0, h2, hd, h1, hnT, hTe, hT, hdT, h3⟩ := hh
  have hsz3 : 3 < ts.size := (Array.getElem?_eq_some_iff.mp h3).1
  have other : ∀ b, b ≠ T → (s.heap.update T (Obj.mapFields (·.setIfInBounds 3 (f.elim Value.none fun a => rawInt a)))).get? b = s.heap.get? b := fun b hb => Heap.get?_update_other _ _ (Ne.symm hb)
  have noRecord : ∀ b o, s.heap.get? b = some o → (∀ vs, o.data ≠ .fields vs) → b ≠ T := fun b o hb hnf q => by
    rw [q, hT] at hb; injection hb with hb; subst hb; exact hnf ts hdT
  unfold setFlight
  refine wpAny_bind (wpAny_field he hd h1 ?_)
  rw [if_pos (show (Value.ref T != Value.none) = true from by simp)]
  refine wpAny_setField hT hdT hsz3 (hQ _ ⟨fun b o hbo => (other b fun q => by rw [q, hnT] at hbo; cases hbo).trans (hkb b o hbo), hen, hl.of_keeps fun b o hb hnf => ⟨o, (other b (noRecord b o hb hnf)).trans hb, rfl⟩, ?_⟩ fun b o hb hnf => ⟨o.slots, (other b (noRecord b o hb hnf)).trans hb⟩)
  exact ⟨oe, vs, T, _, _, (other e (Ne.symm hTe)).trans he, hc, h0, h2, hd, h1, hnT, hTe, Heap.get?_update_self _ hT (Obj.isFreed_of_fields (Obj.data_mapFields hdT _)), Obj.data_mapFields hdT _, by simp [hsz3]⟩
end
/-! part R4 -/
theorem offR4 : True := by
  w_top off
  trivial
/-- what is known of the exception that a clause holds -/
structure HeldE (X : String) (oe : Obj) (vs : Array Value) : Prop where
  cls : oe.cls = .type X
  data : oe.data = .fields vs
  ctx : vs[2]? = some .none
section
variable {prog : Program} {w : World} {A₀ : Around} {E : Value → Shared → Prop} {s' : Shared} {base g g₀ G : Heap} {outer : List Env} {L a e : Addr} {m : Str → Option Value} {name : Str} {scope : Scope} {cd : Value} {cx : List (Str × Addr)}
  {n : Str} {b₀ : Stmt} {suite : List Stmt} {pos np : Pos} {rest : List ExceptHandler} {Q : Flow → Shared → Prop} {news : List (Addr × Obj)} {KF : Frag}
  {p : Program} {loose : List Str} {mean : ExcName → Option Value} {mg mb : Str → Option Value} {x : Str} {X T' : String}

theorem caught_hereB (hx : Heap.NewExc G s'.heap e X) (F : Fr g L G m) (N : News g L G news) (K : Below A₀ base outer g) (XB : KF.In base) (TB : Top p loose mean mg mb base)
    (ex : nsIn KF mainGlobals x = some none) (hv : bootBuiltins x = some (.type T')) (hn' : x ≠ "__name__")
    (hexc : isSubtype (.type T') (.type "BaseException") = pure true) (hnt : isSubtype (.type ((Manifest.find? T').elim "type" fun y => y.metatype)) (.type "tuple") = pure false) (hsub : isSubtype (.type X) (.type T') = pure true)
    (k : ∀ h' g' tk oe vs, KtsTurn (outer.filterMap (·.frame)) g g' → Fr g' L h' (fun y => if y = n then some (.ref e) else m y) → News g' L h' ((e, oe) :: news) → HeldE X oe vs → Below A₀ base outer g' → KF.In g' → Top p loose mean mg mb g' →
      wpAny (model prog w) ((A₀.deeper (envX name scope L a cd cx)).mark (some (.ref e))) (execs (b₀ :: suite) (envX name scope L a cd cx))
        (fun f s₄ => wpAny (model prog w) (A₀.deeper (envX name scope L a cd cx)) (do bindName (envX name scope L a cd cx) n .none; unbindBehindTheSuite (envX name scope L a cd cx) n pos) (fun _ s₅ => Q f s₅) E s₄)
        (AsSuiteRaised (model prog w) ((A₀.deeper (envX name scope L a cd cx)).mark (some (.ref e))) (envX name scope L a cd cx) n pos (notedBy (model prog w) ((A₀.deeper (envX name scope L a cd cx)).mark (some (.ref e))) (envX name scope L a cd cx) (cameBackBy (model prog w) (A₀.deeper (envX name scope L a cd cx)) (envX name scope L a cd cx) E)))
        { s' with heap := h', toks := tk })
    (hk : scope.kind = .function := by rfl) (hlo : (envX name scope L a cd cx).kindOf n = some .local := by rfl) (hx' : (envX name scope L a cd cx).kindOf x = some .globalImplicit := by rfl) (hd : (x == ("__debug__" : Str)) = false := by decide) :
    wpAny (model prog w) (A₀.deeper (envX name scope L a cd cx)) (noteFrame (.ref e) (envX name scope L a cd cx))
      (fun _ s₂ => wpAny (model prog w) (A₀.deeper (envX name scope L a cd cx)) (setFlight (.ref e) none) (fun _ s₃ =>
        wpAny (model prog w) (A₀.deeper (envX name scope L a cd cx)) (handleBy (.ref e) (envX name scope L a cd cx) (.ExceptHandler (some (.Name x np)) (some n) (b₀ :: suite) pos :: rest)) Q E s₃) E s₂) E s' := by
  have K' := pushX (name := name) (a := a) (cd := cd) (cl := cx) K F hk
  have hBG : ∀ b o, G.get? b = some o → b ∉ (envX name scope L a cd cx :: outer).filterMap (·.frame) → (hideAll G ((envX name scope L a cd cx :: outer).filterMap (·.frame))).get? b = some o := fun b o q nm => hideAll_get _ q nm
  have hL : (hideAll G ((envX name scope L a cd cx :: outer).filterMap (·.frame))).get? L = none := hideAll_none _ (List.mem_filterMap.mpr ⟨_, .head _, rfl⟩)
  have hl : ∀ q ∈ news, (hideAll G ((envX name scope L a cd cx :: outer).filterMap (·.frame))).get? q.1 = some q.2 := fun q hq => by
    refine hideAll_get _ (N q hq).1 fun hm => ?_
    obtain ⟨env, he, hf⟩ := List.mem_filterMap.mp hm
    rcases List.mem_cons.mp he with rfl | he
    · exact (N q hq).2.1 (Option.some.inj hf).symm
    · obtain ⟨o, ho, _⟩ := (K.frames.mem (List.mem_filterMap.mpr ⟨env, he, hf⟩)).2
      rw [(N q hq).2.2] at ho; cases ho
  obtain ⟨ob, tp, he, hcls, hd0⟩ := hx.there
  have hin : ∀ env' ∈ (envX name scope L a cd cx :: outer), ∀ b, env'.frame = some b → b ∈ (envX name scope L a cd cx :: outer).filterMap (·.frame) := fun env' he b hb => List.mem_filterMap.mpr ⟨env', he, hb⟩
  have hen : (hideAll G ((envX name scope L a cd cx :: outer).filterMap (·.frame))).get? e = none := by
    cases q : (hideAll G ((envX name scope L a cd cx :: outer).filterMap (·.frame))).get? e with
    | none => rfl
    | some o => have := of_hideAll _ q; rw [hx.new] at this; cases this
  refine x_note (a0 := tp) (c2 := .none) (B := hideAll G ((envX name scope L a cd cx :: outer).filterMap (·.frame))) (Around.frames_deeper K.stack) rfl ((funFrames_hide K'.frames hin).of_keeps fun b o hb _ => ⟨o, hx.keeps b o hb, rfl⟩) he hcls hd0 rfl rfl rfl (fun b o hb => hx.keeps b o (of_hideAll _ hb)) hen (fun h₄ hheld₄ hsm₄' => ?_)
  have hsm₄ := (Heap.UpToSlots.of_keeps hx.keeps).trans hsm₄'
  refine x_flight none hheld₄ fun h₅ hheld hsm₅' => ?_
  have hsm₅ := hsm₄.trans hsm₅'
  obtain ⟨g₅, T₅, F₅, K₅⟩ := kts_ground (name := name) (scope := scope) (a := a) (cd := cd) K F hBG hheld.1 hsm₅
  have X₅ : KF.In g₅ := XB.keeps K₅.stays
  have P₅ : TopRead p loose mg mb g₅ := topRead_of (TB.keeps K₅.stays)
  obtain ⟨ob, hob, hobc⟩ := hheld.2.2.2.at.there
  refine wpAny_handleBy_builtin_as (X := X) (T := T') (b := true) hexc hnt hsub (nameX_B F₅ X₅ P₅ ex hv hn' ⟨rfl, ⟨ob, hob, hobc⟩, ?_⟩ hk hx' hd)
  refine x_flight none hheld fun h₆ hfl₆ hsm₆ => ?_
  obtain ⟨g₆, T₆, F₆, K₆⟩ := kts_ground (name := name) (scope := scope) (a := a) (cd := cd) K F hBG hfl₆.1 (hsm₅.trans hsm₆)
  have Nl : News g₆ L h₆ news := fun q hq => ⟨hfl₆.1 _ _ (hl q hq), (fun z => by have := hl q hq; rw [z, hL] at this; cases this), T₆.none_ _ (N q hq).2.2⟩
  obtain ⟨oe, vs, T, oT, ts, e1, e2, e3, e4, e5, _⟩ := hfl₆.2.2.2
  have ne₆ : g₆.get? e = none := T₆.none_ _ (by
    cases q : g.get? e with
    | none => rfl
    | some o => have := F.keep _ _ q; rw [hx.new] at this; cases this)
  have Nl := News.more F₆ Nl e1 (fun es n q => by rw [e5] at q; cases q) ne₆
  have X₆ : KF.In g₆ := XB.keeps K₆.stays
  have P₆ : Top p loose mean mg mb g₆ := TB.keeps K₆.stays
  refine storeX_L F₆ Nl (fun h₇ F₇ N₇ => ?_) hk hlo
  exact k h₇ g₆ _ oe vs T₆ F₇ N₇ ⟨e2, e5, e4⟩ K₆ X₆ P₆
theorem caught_here0 (hx : Heap.NewExc G s'.heap e X) (F : Fr g L G m) (N : News g L G news) (K : Below A₀ base outer g) (XB : KF.In base) (TB : Top p loose mean mg mb base)
    (ex : nsIn KF mainGlobals x = some none) (hv : bootBuiltins x = some (.type T')) (hn' : x ≠ "__name__")
    (hexc : isSubtype (.type T') (.type "BaseException") = pure true) (hnt : isSubtype (.type ((Manifest.find? T').elim "type" fun y => y.metatype)) (.type "tuple") = pure false) (hsub : isSubtype (.type X) (.type T') = pure true)
    (k : ∀ h' g' oe vs, KtsTurn (outer.filterMap (·.frame)) g g' → Fr g' L h' m → News g' L h' ((e, oe) :: news) → HeldE X oe vs → Below A₀ base outer g' → KF.In g' → Top p loose mean mg mb g' →
      wpAny (model prog w) ((A₀.deeper (envX name scope L a cd cx)).mark (some (.ref e))) (execs (b₀ :: suite) (envX name scope L a cd cx)) Q E { s' with heap := h' })
    (hk : scope.kind = .function := by rfl) (hx' : (envX name scope L a cd cx).kindOf x = some .globalImplicit := by rfl) (hd : (x == ("__debug__" : Str)) = false := by decide)
    (hE : PassesOwnAt (model prog w) ((A₀.deeper (envX name scope L a cd cx)).mark (some (.ref e))) (A₀.deeper (envX name scope L a cd cx)) (envX name scope L a cd cx) E := by passes_own) :
    wpAny (model prog w) (A₀.deeper (envX name scope L a cd cx)) (noteFrame (.ref e) (envX name scope L a cd cx))
      (fun _ s₂ => wpAny (model prog w) (A₀.deeper (envX name scope L a cd cx)) (setFlight (.ref e) none) (fun _ s₃ =>
        wpAny (model prog w) (A₀.deeper (envX name scope L a cd cx)) (handleBy (.ref e) (envX name scope L a cd cx) (.ExceptHandler (some (.Name x np)) none (b₀ :: suite) pos :: rest)) Q E s₃) E s₂) E s' := by
  have K' := pushX (name := name) (a := a) (cd := cd) (cl := cx) K F hk
  have hBG : ∀ b o, G.get? b = some o → b ∉ (envX name scope L a cd cx :: outer).filterMap (·.frame) → (hideAll G ((envX name scope L a cd cx :: outer).filterMap (·.frame))).get? b = some o := fun b o q nm => hideAll_get _ q nm
  have hL : (hideAll G ((envX name scope L a cd cx :: outer).filterMap (·.frame))).get? L = none := hideAll_none _ (List.mem_filterMap.mpr ⟨_, .head _, rfl⟩)
  have hl : ∀ q ∈ news, (hideAll G ((envX name scope L a cd cx :: outer).filterMap (·.frame))).get? q.1 = some q.2 := fun q hq => by
    refine hideAll_get _ (N q hq).1 fun hm => ?_
    obtain ⟨env, he, hf⟩ := List.mem_filterMap.mp hm
    rcases List.mem_cons.mp he with rfl | he
    · exact (N q hq).2.1 (Option.some.inj hf).symm
    · obtain ⟨o, ho, _⟩ := (K.frames.mem (List.mem_filterMap.mpr ⟨env, he, hf⟩)).2
      rw [(N q hq).2.2] at ho; cases ho
  obtain ⟨ob, tp, he, hcls, hd0⟩ := hx.there
  have hin : ∀ env' ∈ (envX name scope L a cd cx :: outer), ∀ b, env'.frame = some b → b ∈ (envX name scope L a cd cx :: outer).filterMap (·.frame) := fun env' he b hb => List.mem_filterMap.mpr ⟨env', he, hb⟩
  have hen : (hideAll G ((envX name scope L a cd cx :: outer).filterMap (·.frame))).get? e = none := by
    cases q : (hideAll G ((envX name scope L a cd cx :: outer).filterMap (·.frame))).get? e with
    | none => rfl
    | some o => have := of_hideAll _ q; rw [hx.new] at this; cases this
  refine x_note (a0 := tp) (c2 := .none) (B := hideAll G ((envX name scope L a cd cx :: outer).filterMap (·.frame))) (Around.frames_deeper K.stack) rfl ((funFrames_hide K'.frames hin).of_keeps fun b o hb _ => ⟨o, hx.keeps b o hb, rfl⟩) he hcls hd0 rfl rfl rfl (fun b o hb => hx.keeps b o (of_hideAll _ hb)) hen (fun h₄ hheld₄ hsm₄' => ?_)
  have hsm₄ := (Heap.UpToSlots.of_keeps hx.keeps).trans hsm₄'
  refine x_flight none hheld₄ fun h₅ hheld hsm₅' => ?_
  have hsm₅ := hsm₄.trans hsm₅'
  obtain ⟨g₅, T₅, F₅, K₅⟩ := kts_ground (name := name) (scope := scope) (a := a) (cd := cd) K F hBG hheld.1 hsm₅
  have X₅ : KF.In g₅ := XB.keeps K₅.stays
  have P₅ : TopRead p loose mg mb g₅ := topRead_of (TB.keeps K₅.stays)
  obtain ⟨ob, hob, hobc⟩ := hheld.2.2.2.at.there
  refine wpAny_handleBy_builtin (X := X) (T := T') (b := true) hexc hnt hsub (nameX_B F₅ X₅ P₅ ex hv hn' ⟨rfl, ⟨ob, hob, hobc⟩, ?_⟩ hk hx' hd)
  refine x_flight none hheld fun h₆ hfl₆ hsm₆ => ?_
  obtain ⟨g₆, T₆, F₆, K₆⟩ := kts_ground (name := name) (scope := scope) (a := a) (cd := cd) K F hBG hfl₆.1 (hsm₅.trans hsm₆)
  have Nl : News g₆ L h₆ news := fun q hq => ⟨hfl₆.1 _ _ (hl q hq), (fun z => by have := hl q hq; rw [z, hL] at this; cases this), T₆.none_ _ (N q hq).2.2⟩
  obtain ⟨oe, vs, T, oT, ts, e1, e2, e3, e4, e5, _⟩ := hfl₆.2.2.2
  have ne₆ : g₆.get? e = none := T₆.none_ _ (by
    cases q : g.get? e with
    | none => rfl
    | some o => have := F.keep _ _ q; rw [hx.new] at this; cases this)
  have Nl := News.more F₆ Nl e1 (fun es n q => by rw [e5] at q; cases q) ne₆
  have X₆ : KF.In g₆ := XB.keeps K₆.stays
  have P₆ : Top p loose mean mg mb g₆ := TB.keeps K₆.stays
  exact wpAny_passesOwnAt hE (k h₆ g₆ oe vs T₆ F₆ Nl ⟨e2, e5, e4⟩ K₆ X₆ P₆)
end
theorem turn_none {fs : List Addr} {g g' : Heap} (T : KtsTurn fs g g') {b : Addr} (h : g'.get? b = none) : g.get? b = none := by
  cases q : g.get? b with
  | none => rfl
  | some o => obtain ⟨sl, hs⟩ := T.up q; rw [h] at hs; cases hs
theorem Rz.turn {base g g' : Heap} {outer : List Env} {e : Addr} {X : String} {news : List (Addr × Obj)} {h : Heap} (T : KtsTurn (outer.filterMap (·.frame)) g g') (R : Rz base g' outer e X news h) : Rz base g outer e X news h := by
  obtain ⟨⟨B, a0, h1, h2, h3, h4⟩, U⟩ := R
  refine ⟨⟨B, a0, h1, fun b o q nm => h2 b o (T.other b o q nm) nm, fun q hq => ⟨(h3 q hq).1, turn_none T (h3 q hq).2.1, (h3 q hq).2.2⟩, h4⟩, fun b o q hn => ?_⟩
  obtain ⟨sl, hs⟩ := T.up q
  obtain ⟨sl', hs'⟩ := U b _ hs hn
  exact ⟨sl', hs'⟩
local macro_rules | `(tactic| walk_at "noteFrame ref") => `(tactic| (k_here; (with_reducible show wpAny _ _ (noteFrame _ _) (fun _ s₂ => wpAny _ _ (setFlight _ none) (fun _ s₃ => wpAny _ _ (handleBy _ _ (ExceptHandler.ExceptHandler (some (Expr.Name ("ValueError" : Str) _)) (some _) _ _ :: _)) _ _ s₃) _ s₂) _ _); k_dflt (refine' caught_hereB (T' := "ValueError") ?hx ?F ?N ?K ?XB ?TB ?ex PyProof.Rows.Boot.«ValueError» ?hn PySem.F.isExc_ValueError PySem.F.notTuple_ValueError ?hs ?_; (case hx => assumption); (case F => k_asm); (case N => k_asm); (case K => assumption); (case XB => assumption); (case TB => assumption); (case hs => kts_sub); (case ex => k_is); (case hn => decide); k_whole); intro h' g' tk' oe' vs' T' F' N' H' K' X' P'; (try k_lift K'); (try k_sweep)))
local macro_rules | `(tactic| walk_at "noteFrame ref") => `(tactic| (k_here; (with_reducible show wpAny _ _ (noteFrame _ _) (fun _ s₂ => wpAny _ _ (setFlight _ none) (fun _ s₃ => wpAny _ _ (handleBy _ _ (ExceptHandler.ExceptHandler (some (Expr.Name ("KeyError" : Str) _)) none _ _ :: _)) _ _ s₃) _ s₂) _ _); k_dflt (refine' caught_here0 (T' := "KeyError") ?hx ?F ?N ?K ?XB ?TB ?ex PyProof.Rows.Boot.«KeyError» ?hn kr_isExc_KeyError kr_notTuple_KeyError ?hs ?_; (case hx => assumption); (case F => k_asm); (case N => k_asm); (case K => assumption); (case XB => assumption); (case TB => assumption); (case hs => kts_sub); (case ex => k_is); (case hn => decide); k_whole); intro h' g' oe' vs' T' F' N' H' K' X' P'; (try k_lift K'); (try k_sweep)))
/-! part R6 -/
theorem offR6 : True := by
  w_top off
  trivial
/-- what a raise does behind its value -/
def tailCause (xv : Value) (cause : Option (Sem Value)) : Sem Flow := raiseStmt (envOf "" default 0 0 .none) (some (pure xv)) cause
theorem raise_split (env : Env) (x : Sem Value) (cause : Option (Sem Value)) : raiseStmt env (some x) cause = (x >>= fun xv => tailCause xv cause) := rfl

section
variable {prog : Program} {w : World} {A : Around} {E : Value → Shared → Prop} {s : Shared} {env : Env} {Q : Flow → Shared → Prop}
theorem z_raise {cls newId initId : String} (Fc : ExcCallFacts cls newId initId) {x : Str} {np cpos pos : Pos} {args : List PySem.Expr} {cause : Option PySem.Expr}
    (hplain : (backTo cpos (starEach args env)).any (·.1) = false)
    (h : wpAny (model prog w) A (eval (.Name x np) env) (fun f s₁ => f = .type cls ∧ wpAny (model prog w) A (evalArgs (.type cls) true (backTo cpos (starEach args env)) [])
      (fun a s₂ => a.kw = [] ∧ a.pos.length ≤ sizeLine ∧ ∀ h' e2, Heap.MadeExc s₂.heap h' e2 cls a.pos → wpAny (model prog w) A (tailCause (.ref e2) ((evalOpt cause env).map fun c => do let v ← c; standAt pos; pure v)) Q E { s₂ with heap := h' }) E s₁) E s) :
    wpAny (model prog w) A (exec (.Raise (some (.Call (.Name x np) args [] cpos)) cause pos) env) Q E s := by
  rw [arm_exec_Raise]
  show wpAny _ A (do standAt pos; raiseStmt env (some (do let v ← eval (.Call (.Name x np) args [] cpos) env; standAt pos; pure v)) _) Q E s
  refine wpAny_bind (wpAny_standAt ?_)
  rw [raise_split]
  refine wpAny_bind (wpAny_bind ?_)
  refine wpAny_mono (wpAny_Call_ofName (Q := fun v s₁ => wpAny (model prog w) A (tailCause v ((evalOpt cause env).map fun c => do let v ← c; standAt pos; pure v)) Q E s₁) (wpAny_mono h (fun f s₁ h₁ => ?_) fun _ _ x => x)) (fun v s₁ h₁ => wpAny_bind (wpAny_standAt (wpAny_pure h₁))) fun _ _ x => x
  obtain ⟨rfl, h₁⟩ := h₁
  refine callWith_excType hplain (wpAny_mono h₁ (fun a s₂ h₂ => ?_) fun _ _ x => x)
  obtain ⟨apos, akw⟩ := a
  obtain ⟨hkw, hlen, h₂⟩ := h₂
  obtain rfl : akw = [] := hkw
  obtain ⟨hp, g, d, tk, os⟩ := s₂
  exact wpAny_call_exc Fc (hrest := hlen) fun h' e hm => h₂ h' e hm

theorem unchain_none {A : Around} {R : Result → Shared → Prop} {v : Value} {e : Addr} {oe : Obj} {vs : Array Value} (he : s.heap.get? e = some oe) (hd : oe.data = .fields vs) (h2 : vs[2]? = some .none) (h : R (.ok (.ret .none)) s) :
    codeAny (model prog w) A (.builtin "proto.unchain" ⟨[v, .ref e, .ref e, .bool false], []⟩) R s := by
  refine codeAny_builtin (b := Builtin.«proto.unchain») (entryFor_of_tree (by kernel_rfl)) ?_
  unfold Builtin.«proto.unchain»
  dsimp only
  refine wpAny_bind (wpAny_field he hd h2 ?_)
  rw [if_pos (by decide)]
  first
    | exact wpAny_pure h
    | exact wpAny_bind (wpAny_pure h)
    | (show wpAny _ _ (ret Value.none >>= _) _ _ _; exact wpAny_bind (wpAny_pure (wpAny_pure h)))
    | (trace_state; done)

theorem tail_none {cls X : String} (G : ExcRaiseFacts cls) {e e2 t : Addr} {oe : Obj} {vs : Array Value} (hh : A.handled = some (.ref e)) (he2 : s.heap.get? e2 = some { cls := .type cls, data := .fields #[.ref t, .none, .none, .none, .bool false, .none] })
    (he : s.heap.get? e = some oe) (H : HeldE X oe vs) (hne : e ≠ e2)
    (hE : ∀ h' ws, Heap.SameBut e2 s.heap h' → h'.get? e2 = some { cls := .type cls, data := .fields ws } → ws[0]? = some (.ref t) → ws[1]? = some .none → ws[2]? = some (.ref e) → E (.ref e2) { s with heap := h' }) :
    wpAny (model prog w) A (tailCause (.ref e2) none) Q E s := by
  unfold tailCause raiseStmt
  dsimp only
  refine wpAny_bind (wpAny_pure ?_)
  obtain ⟨hp, g, d, tk, os⟩ := s
  have hsub := G.isExc
  have hmeta := G.plainMeta
  repeat (first | refine wpAny_loadPart he2 ?_ | wp_step)
  unfold raiseNew
  refine wpAny_bind (wpAny_handled ?_)
  rw [hh]
  dsimp only
  rw [if_pos (by simpa using hne)]
  refine wpAny_bind (wpAny_holding (wpAny_runValue (unchain_none he H.data H.ctx ?_)))
  refine wpAny_bind ?_
  show wpAny _ _ (setField (.ref e2) 2 (.ref e)) _ _ _
  refine wpAny_setField he2 rfl (by simp) (wpAny_throw (hE _ #[.ref t, .none, .ref e, .none, .bool false, .none] (Heap.SameBut.update ..) ?_ ?_ ?_ ?_))
  · exact Heap.get?_update_self _ he2 rfl
  · rfl
  · rfl
  · rfl

set_option maxHeartbeats 2000000 in
theorem tail_from {cls X : String} (G : ExcRaiseFacts cls) (GX : ExcRaiseFacts X) {e e2 t : Addr} {oe : Obj} {vs : Array Value} {c : Sem Value} (hh : A.handled = some (.ref e)) (he2 : s.heap.get? e2 = some { cls := .type cls, data := .fields #[.ref t, .none, .none, .none, .bool false, .none] })
    (he : s.heap.get? e = some oe) (H : HeldE X oe vs) (hne : e ≠ e2) (hc : wpAny (model prog w) A c (fun v s' => v = .ref e ∧ s' = s) E s)
    (hE : ∀ h' ws, Heap.SameBut e2 s.heap h' → h'.get? e2 = some { cls := .type cls, data := .fields ws } → ws[0]? = some (.ref t) → ws[1]? = some .none → ws[2]? = some (.ref e) → E (.ref e2) { s with heap := h' }) :
    wpAny (model prog w) A (tailCause (.ref e2) (some c)) Q E s := by
  unfold tailCause raiseStmt
  dsimp only
  refine wpAny_bind (wpAny_pure ?_)
  refine wpAny_bind (wpAny_holding (wpAny_mono hc ?_ fun _ _ x => x))
  rintro v s' ⟨rfl, rfl⟩
  refine wpAny_bind (wpAny_pure ?_)
  obtain ⟨hp, g, d, tk, os⟩ := s'
  have hsub := G.isExc
  have hmeta := G.plainMeta
  have hsubX := GX.isExc
  have hmetaX := GX.plainMeta
  obtain ⟨ocls, odict, odata, oslots⟩ := oe
  obtain ⟨h1, h2, h3⟩ := H
  dsimp only at h1 h2
  subst h1 h2
  repeat (first | refine wpAny_loadPart he2 ?_ | refine wpAny_loadPart he ?_ | wp_step)
  have u1 := Heap.get?_update_self (h := hp) (Obj.mapFields fun x => x.setIfInBounds 3 (Value.ref e)) he2 rfl
  have u2 := Heap.get?_update_self (Obj.mapFields fun x => x.setIfInBounds 4 (Value.bool true)) u1 rfl
  have b1 := (Heap.get?_update_other hp (Obj.mapFields fun x => x.setIfInBounds 3 (Value.ref e)) (Ne.symm hne)).trans he
  have b2 := (Heap.get?_update_other _ (Obj.mapFields fun x => x.setIfInBounds 4 (Value.bool true)) (Ne.symm hne)).trans b1
  unfold raiseNew
  refine wpAny_bind (wpAny_handled ?_)
  rw [hh]
  dsimp only
  rw [if_pos (by simpa using hne)]
  refine wpAny_bind (wpAny_holding (wpAny_runValue (unchain_none b2 rfl h3 ?_)))
  refine wpAny_bind ?_
  show wpAny _ _ (setField (.ref e2) 2 (.ref e)) _ _ _
  refine wpAny_setField u2 rfl (by simp) (wpAny_throw (hE _ #[.ref t, .none, .ref e, .ref e, .bool true, .none] (((Heap.SameBut.update ..).trans (Heap.SameBut.update ..)).trans (Heap.SameBut.update ..)) ?_ ?_ ?_ ?_))
  · exact Heap.get?_update_self _ u2 rfl
  · rfl
  · rfl
  · rfl
end

section
variable {prog : Program} {w : World} {A₀ : Around} {E : Value → Shared → Prop} {s : Shared} {base g h₁ : Heap} {outer : List Env} {L a e2 : Addr} {m : Str → Option Value} {name : Str} {scope : Scope} {cd : Value} {cx : List (Str × Addr)} {n : Str} {pos : Pos} {news : List (Addr × Obj)} {cls : String} {t : Addr} {ws : Array Value}
/-- what stands when the second exception has been thrown: the frame, the ledger, the exception itself -/
theorem out_note {A' : Around} {Q : Unit → Shared → Prop} {a0 c2 : Value} (hfr : A'.frames = some (envX name scope L a cd cx :: outer)) (K : Below A₀ base outer g) (F : Fr g L h₁ m) (hs : Heap.SameBut e2 h₁ s.heap) (hne : e2 ≠ L) (hg : g.get? e2 = none)
    (he2 : s.heap.get? e2 = some { cls := .type cls, data := .fields ws }) (h0 : ws[0]? = some a0) (h1 : ws[1]? = some .none) (h2 : ws[2]? = some c2) (hk : scope.kind = .function) (hf1 : (o : Obj) → h₁.get? e2 = some o → ∃ vs, o.data = .fields vs)
    (hQ : ∀ h', HX (hideAll h₁ (e2 :: (envX name scope L a cd cx :: outer).filterMap (·.frame))) (envX name scope L a cd cx :: outer) e2 cls a0 c2 (rawInt L) h' → s.heap.UpToSlots h' → Q () { s with heap := h' }) :
    wpAny (model prog w) A' (noteFrame (.ref e2) (envX name scope L a cd cx)) Q E s := by
  have K' := pushX (name := name) (a := a) (cd := cd) (cl := cx) K F hk
  have hin : ∀ env' ∈ (envX name scope L a cd cx :: outer), ∀ b, env'.frame = some b → b ∈ e2 :: (envX name scope L a cd cx :: outer).filterMap (·.frame) := fun env' he b hb => .tail _ (List.mem_filterMap.mpr ⟨env', he, hb⟩)
  refine x_note hfr rfl ((funFrames_hide K'.frames hin).of_keeps fun b o hb hnf => ?_) he2 rfl rfl h0 h1 h2 (fun b o hb => ?_) (hideAll_none _ (.head _)) hQ
  · refine ⟨o, (hs.2 b fun q => ?_).trans hb, rfl⟩
    rw [q] at hb
    obtain ⟨vs, hv⟩ := hf1 o hb
    exact hnf vs hv
  · have hb' := of_hideAll _ hb
    refine (hs.2 b fun q => ?_).trans hb'
    rw [q, hideAll_none _ (.head _)] at hb
    cases hb
end
/-! part R7 -/
theorem offR7 : True := by
  w_top off
  trivial
section
variable {prog : Program} {w : World} {A₀ : Around} {E0 E0' : Value → Shared → Prop} {s : Shared} {base g h0 : Heap} {outer : List Env} {L a e e2 : Addr} {m : Str → Option Value} {name : Str} {scope : Scope} {cd : Value} {cx : List (Str × Addr)} {n : Str} {pos pos2 np2 : Pos} {news : List (Addr × Obj)} {cls X : String} {args : List Value} {oe : Obj} {vs : Array Value} {Q : Flow → Shared → Prop}

theorem ups_same {g h₁ h₂ : Heap} (U : g.UpToSlots h₁) (hs : Heap.SameBut e2 h₁ h₂) (hg : g.get? e2 = none) : g.UpToSlots h₂ := fun b o q hn => by
  obtain ⟨sl, hb⟩ := U b o q hn
  exact ⟨sl, (hs.2 b (fun z => by rw [z, hg] at q; cases q)).trans hb⟩

/-- the frame is left by the exception e2, which has been noted in it -/
theorem leave_noted {a0 c2 : Value} (K : Below A₀ base outer g) (F : Fr g L h0 m) (N : News g L h0 news) (hk : scope.kind = .function) (hg : g.get? e2 = none) (hnw : ∀ q ∈ news, q.1 ≠ e2)
    (hH : HX (hideAll h0 (e2 :: (envX name scope L a cd cx :: outer).filterMap (·.frame))) (envX name scope L a cd cx :: outer) e2 cls a0 c2 (rawInt L) s.heap) (U : g.UpToSlots s.heap)
    (hQ : ∀ h', Rz base g outer e2 cls news h' → E0 (.ref e2) { s with heap := h' }) :
    wpAny (model prog w) (A₀.deeper (envX name scope L a cd cx)) (leaving (envX name scope L a cd cx) (.ref e2)) (fun _ s'' => E0 (.ref e2) s'') E0' s := by
  have K' := pushX (name := name) (a := a) (cd := cd) (cl := cx) K F hk
  unfold leaving
  refine wpAny_bind (wpAny_noteFrame_againW rfl hH.2.2.2.at ?_)
  refine x_flight none hH fun h' hH' U' => hQ h' ⟨⟨_, a0, ?_, ?_, ?_, hH'.1, hH'.2.1, ?_, hH'.2.2.2.at⟩, U.trans U'⟩
  · intro b o q
    refine hideAll_get _ (K'.stays b o q) fun hm => ?_
    rcases List.mem_cons.mp hm with z | z
    · rw [z, fresh_of_stays K.stays hg] at q; cases q
    · rw [(K'.frames.mem z).1] at q; cases q
  · intro b o q nm
    refine hideAll_get _ (F.keep b o q) fun hm => ?_
    rcases List.mem_cons.mp hm with z | z
    · rw [z, hg] at q; cases q
    · rcases memX z with z | z
      · rw [z, kts_self F] at q; cases q
      · exact nm z
  · intro q hq
    refine ⟨hideAll_get _ (N q hq).1 fun hm => ?_, (N q hq).2.2, fresh_of_stays K.stays (N q hq).2.2⟩
    rcases List.mem_cons.mp hm with z | z
    · exact hnw q hq z
    · obtain ⟨env, he, hf⟩ := List.mem_filterMap.mp z
      rcases List.mem_cons.mp he with rfl | he
      · exact (N q hq).2.1 (Option.some.inj hf).symm
      · obtain ⟨o, ho, _⟩ := (K.frames.mem (List.mem_filterMap.mpr ⟨env, he, hf⟩)).2
        rw [(N q hq).2.2] at ho; cases ho
  · exact hH'.2.2.1.2.2

theorem came_back {a0 c2 : Value} (K : Below A₀ base outer g) (F : Fr g L h0 m) (N : News g L h0 news) (hk : scope.kind = .function) (hg : g.get? e2 = none) (hnw : ∀ q ∈ news, q.1 ≠ e2)
    (hH : HX (hideAll h0 (e2 :: (envX name scope L a cd cx :: outer).filterMap (·.frame))) (envX name scope L a cd cx :: outer) e2 cls a0 c2 (rawInt L) s.heap) (U : g.UpToSlots s.heap)
    (hQ : ∀ h', Rz base g outer e2 cls news h' → E0 (.ref e2) { s with heap := h' }) :
    cameBackBy (model prog w) (A₀.deeper (envX name scope L a cd cx)) (envX name scope L a cd cx) (fun y s' => wpAny (model prog w) (A₀.deeper (envX name scope L a cd cx)) (leaving (envX name scope L a cd cx) y) (fun _ s'' => E0 y s'') E0' s') (.ref e2) s := by
  unfold cameBackBy
  obtain ⟨ooe, ovs, T, oT, ts, q1, q2, q3, q4, q5, q6, _⟩ := hH.2.2.2
  refine wpAny_bind (wpAny_field q1 q5 q6 ?_)
  rw [if_neg (by simp)]
  first
    | refine x_flight (some L) hH fun h' hH' U' => ?_
    | refine wpAny_bind (wpAny_pure (x_flight (some L) hH fun h' hH' U' => ?_))
  exact leave_noted K F N hk hg hnw hH' (U.trans U') hQ

theorem raise_out {cause : Option (Sem Value)} (G : ExcRaiseFacts cls) (K : Below A₀ base outer g) (F : Fr g L h0 m) (N : News g L h0 ((e, oe) :: news)) (H : HeldE X oe vs) (hx : Heap.MadeExc h0 s.heap e2 cls args) (hk : scope.kind = .function)
    (hc : cause = none)
    (hQ : ∀ h', Rz base g outer e2 cls news h' → E0 (.ref e2) { s with heap := h' }) :
    wpAny (model prog w) ((A₀.deeper (envX name scope L a cd cx)).mark (some (.ref e))) (tailCause (.ref e2) cause) Q
      (notedBy (model prog w) ((A₀.deeper (envX name scope L a cd cx)).mark (some (.ref e))) (envX name scope L a cd cx) (cameBackBy (model prog w) (A₀.deeper (envX name scope L a cd cx)) (envX name scope L a cd cx)
        (fun y s' => wpAny (model prog w) (A₀.deeper (envX name scope L a cd cx)) (leaving (envX name scope L a cd cx) y) (fun _ s'' => E0 y s'') E0' s'))) s := by
  subst hc
  obtain ⟨t, he2, htn, _⟩ := hx.there
  have he := hx.keeps _ _ (N _ (.head _)).1
  have hne : e ≠ e2 := fun q => by have := (N _ (.head _)).1; rw [show (e, oe).1 = e2 from q, hx.new] at this; cases this
  have hg : g.get? e2 = none := by
    cases q : g.get? e2 with
    | none => rfl
    | some o => have := F.keep _ _ q; rw [hx.new] at this; cases this
  have F1 := F.keeps hx.keeps
  have N1 : News g L s.heap news := fun q hq => ⟨hx.keeps _ _ (N q (.tail _ hq)).1, (N q (.tail _ hq)).2⟩
  have hnw : ∀ q ∈ news, q.1 ≠ e2 := fun q hq z => by have := (N q (.tail _ hq)).1; rw [z, hx.new] at this; cases this
  have neL : e2 ≠ L := fun z => by
    obtain ⟨oL, _, _, hL, _⟩ := F.ns
    rw [← z, hx.new] at hL; cases hL
  refine tail_none G (by rfl) he2 he H hne fun h' ws hs hw w0 w1 w2 => ?_
  unfold notedBy
  refine out_note (s := { s with heap := h' }) (a0 := .ref t) (c2 := .ref e) (Around.frames_deeper K.stack) K F1 hs neL hg hw w0 w1 w2 hk (fun o ho => by rw [he2] at ho; cases ho; exact ⟨_, rfl⟩) fun h'' hH U => ?_
  exact came_back K F1 N1 hk hg hnw hH ((ups_same (.of_keeps F1.keep) hs hg).trans U) hQ

theorem raise_as_out {cause : Option (Sem Value)} (G : ExcRaiseFacts cls) (GX : ExcRaiseFacts X) (K : Below A₀ base outer g) (F : Fr g L h0 m) (N : News g L h0 ((e, oe) :: news)) (H : HeldE X oe vs) (hx : Heap.MadeExc h0 s.heap e2 cls args)
    (hm : m n = some (.ref e)) (hk : scope.kind = .function) (hlo : (envX name scope L a cd cx).kindOf n = some .local) (hd : (n == ("__debug__" : Str)) = false)
    (hc : cause = some (do let v ← eval (.Name n np2) (envX name scope L a cd cx); standAt pos; pure v))
    (hQ : ∀ h' tk, Rz base g outer e2 cls news h' → E0 (.ref e2) { s with heap := h', toks := tk }) :
    wpAny (model prog w) ((A₀.deeper (envX name scope L a cd cx)).mark (some (.ref e))) (tailCause (.ref e2) cause) Q
      (AsSuiteRaised (model prog w) ((A₀.deeper (envX name scope L a cd cx)).mark (some (.ref e))) (envX name scope L a cd cx) n pos2 (notedBy (model prog w) ((A₀.deeper (envX name scope L a cd cx)).mark (some (.ref e))) (envX name scope L a cd cx) (cameBackBy (model prog w) (A₀.deeper (envX name scope L a cd cx)) (envX name scope L a cd cx)
        (fun y s' => wpAny (model prog w) (A₀.deeper (envX name scope L a cd cx)) (leaving (envX name scope L a cd cx) y) (fun _ s'' => E0 y s'') E0' s')))) s := by
  subst hc
  obtain ⟨t, he2, htn, _⟩ := hx.there
  have he := hx.keeps _ _ (N _ (.head _)).1
  have hne : e ≠ e2 := fun q => by have := (N _ (.head _)).1; rw [show (e, oe).1 = e2 from q, hx.new] at this; cases this
  have hg : g.get? e2 = none := by
    cases q : g.get? e2 with
    | none => rfl
    | some o => have := F.keep _ _ q; rw [hx.new] at this; cases this
  have F1 := F.keeps hx.keeps
  have N1 : News g L s.heap news := fun q hq => ⟨hx.keeps _ _ (N q (.tail _ hq)).1, (N q (.tail _ hq)).2⟩
  have hnw : ∀ q ∈ news, q.1 ≠ e2 := fun q hq z => by have := (N q (.tail _ hq)).1; rw [z, hx.new] at this; cases this
  have neL : e2 ≠ L := fun z => by
    obtain ⟨oL, _, _, hL, _⟩ := F.ns
    rw [← z, hx.new] at hL; cases hL
  have K' := pushX (name := name) (a := a) (cd := cd) (cl := cx) K F1 hk
  refine tail_from G GX (by rfl) he2 he H hne (wpAny_bind (nameX_L F1 hm (wpAny_bind (wpAny_standAt (wpAny_pure ⟨rfl, rfl⟩))) hk hlo hd)) fun h' ws hs hw w0 w1 w2 => ?_
  unfold AsSuiteRaised
  refine out_note (s := { s with heap := h' }) (a0 := .ref t) (c2 := .ref e) (Around.frames_deeper K.stack) K F1 hs neL hg hw w0 w1 w2 hk (fun o ho => by rw [he2] at ho; cases ho; exact ⟨_, rfl⟩) fun h'' hH U => ?_
  -- the name goes
  have hsL : h'.Ns L m := by
    obtain ⟨oL, es, ep, hL, r⟩ := F1.ns
    exact ⟨oL, es, ep, (hs.2 L (Ne.symm neL)).trans hL, r⟩
  have nsL : h''.Ns L m := U.ns hsL
  refine wpAny_nameGoes_keeps hlo nsL (by show (scope.kind == .class || (scope.kind == .module && L != mainGlobals)) = false; rw [hk]; rfl) fun h3 v hn3' hs3' => ?_
  have hs3 : Heap.SameBut L h'' h3 := hs3'
  have hn3 : h3.Ns L _ := hn3'
  have nL : g.get? L = none := kts_self F
  have BL : (hideAll s.heap (e2 :: (envX name scope L a cd cx :: outer).filterMap (·.frame))).get? L = none := hideAll_none _ (.tail _ (List.mem_filterMap.mpr ⟨_, .head _, rfl⟩))
  have Ug : g.UpToSlots h'' := (ups_same (.of_keeps F1.keep) hs hg).trans U
  have Ug3 : g.UpToSlots h3 := ups_same Ug hs3 nL
  have H3 : HX (hideAll s.heap (e2 :: (envX name scope L a cd cx :: outer).filterMap (·.frame))) (envX name scope L a cd cx :: outer) e2 cls (.ref t) (.ref e) (rawInt L) h3 := by
    obtain ⟨x1, x2, x3, ooe, ovs, T, oT, ts, q1, q2, q3, q4, q5, q6, q7, q8, q9, q10, q11⟩ := hH
    have neT : T ≠ L := fun z => by
      obtain ⟨oL, es, ep, hL, hLd, _⟩ := nsL
      rw [← z, q9] at hL
      cases hL
      rw [q10] at hLd
      cases hLd
    refine ⟨fun b o q => (hs3.2 b fun z => by rw [z, BL] at q; cases q).trans (x1 b o q), x2, ?_, ooe, ovs, T, oT, ts, (hs3.2 e2 neL).trans q1, q2, q3, q4, q5, q6, q7, q8, (hs3.2 T neT).trans q9, q10, q11⟩
    obtain ⟨y1, ⟨L', o', y2, y3, y4, y5⟩, y6⟩ := x3
    obtain rfl : L = L' := Option.some.inj y2
    obtain ⟨oL, es, ep, hL3, hLd3, _⟩ := hn3
    refine ⟨y1, ⟨L, oL, y2, y3, hL3, fun vs z => by rw [hLd3] at z; cases z⟩, ?_⟩
    have hout : ∀ env' ∈ outer, env'.frame ≠ some L := fun env' he' hf' => by
      obtain ⟨o, ho, _⟩ := (K.frames.mem (List.mem_filterMap.mpr ⟨env', he', hf'⟩)).2
      rw [nL] at ho; cases ho
    clear y5 y4 y3 y2 hQ
    revert y6 hout
    generalize outer = ou
    generalize hideAll s.heap _ = BB
    intro y6 hout
    induction ou with
    | nil => trivial
    | cons env' r ih =>
      obtain ⟨z1, ⟨L', o', z2, z3, z4, z5⟩, z6⟩ := y6
      exact ⟨z1, ⟨L', o', z2, z3, (hs3.2 L' fun q => hout env' (.head _) (by rw [z2, q])).trans z4, z5⟩, ih z6 fun e' h' => hout e' (.tail _ h')⟩
  unfold PySem.passOn
  obtain ⟨ooe, ovs, T, oT, ts, q1, q2, q3, q4, q5, q6, _⟩ := H3.2.2.2
  refine wpAny_bind (wpAny_field q1 q5 q6 ?_)
  rw [if_neg (by simp)]
  refine wpAny_bind (x_flight (some L) H3 fun h4 H4 U4 => wpAny_throw ?_)
  unfold notedBy
  refine wpAny_noteFrame_againW rfl H4.2.2.2.at ?_
  exact came_back K F1 N1 hk hg hnw H4 (Ug3.trans U4) fun h' => hQ h' _
end
section
variable {prog : Program} {w : World} {A : Around} {E : Value → Shared → Prop} {s : Shared} {K : Frag} {h₀ : Heap} {L a : Addr} {m mg mb : Str → Option Value} {cn : Str} {cs : Scope} {ccd : Value} {p : Program} {loose : List Str} {mean : ExcName → Option Value}
theorem z_raiseB {cls newId initId : String} (FC : ExcCallFacts cls newId initId) {x : Str} {np cpos pos : Pos} {e₀ : PySem.Expr} {rest : List PySem.Expr} {cause : Option PySem.Expr} {Q : Flow → Shared → Prop}
    (F : Fr h₀ L s.heap m) (X : K.In h₀) (T : Top p loose mean mg mb h₀) (e : nsIn K mainGlobals x = some none) (hv : bootBuiltins x = some (.type cls)) (hn : x ≠ "__name__")
    (hk : cs.kind = .function) (hx : (envX cn cs L a ccd cx).kindOf x = some .globalImplicit) (hd : (x == ("__debug__" : Str)) = false)
    (he : starEach (e₀ :: rest) (envX cn cs L a ccd cx) = (false, eval e₀ (envX cn cs L a ccd cx)) :: starEach rest (envX cn cs L a ccd cx)) (hplain : (backTo cpos (starEach rest (envX cn cs L a ccd cx))).any (·.1) = false)
    (h : wpAny (model prog w) A (spliced (backTo cpos (starEach (e₀ :: rest) (envX cn cs L a ccd cx)))) (fun vs s₂ => vs.length ≤ sizeLine ∧ ∀ h' e2, Heap.MadeExc s₂.heap h' e2 cls vs →
      wpAny (model prog w) A (tailCause (.ref e2) ((evalOpt cause (envX cn cs L a ccd cx)).map fun c => do let v ← c; standAt pos; pure v)) Q E { s₂ with heap := h' }) E s) :
    wpAny (model prog w) A (exec (.Raise (some (.Call (.Name x np) (e₀ :: rest) [] cpos)) cause pos) (envX cn cs L a ccd cx)) Q E s := by
  refine z_raise FC (by rw [he]; show (false || (backTo cpos (starEach rest _)).any (·.1)) = false; rw [hplain]; rfl) (nameX_B F X (topRead_of T) e hv hn ⟨rfl, ?_⟩ hk hx hd)
  rw [he] at h ⊢
  exact Calls.evalArgs_plain (wpAny_mono h (fun vs s₂ h₃ => ⟨rfl, h₃⟩) fun _ _ y => y)
end
local macro_rules | `(tactic| walk_at "exec Raise some some") => `(tactic| (k_here; (with_reducible show wpAny _ _ (exec (Stmt.Raise (some (Expr.Call (Expr.Name ("ValueError" : Str) _) (_ :: _) [] _)) (some _) _) _) _ _ _); k_dflt (refine' z_raiseB PySem.F.excCall_ValueError ?F ?X ?T ?e PyProof.Rows.Boot.«ValueError» ?hn ?hk ?hx ?hd ?he ?hp ?_; (case F => k_asm); (case X => k_asm); (case T => k_asm); (case e => k_is); (case hn => decide); (case hk => rfl); (case hx => rfl); (case hd => decide); (case he => rfl); (case hp => rfl))))
local macro_rules | `(tactic| walk_at "exec Raise some none") => `(tactic| (k_here; (with_reducible show wpAny _ (Around.mark _ (some _)) (exec (Stmt.Raise (some (Expr.Call (Expr.Name ("IndexError" : Str) _) (_ :: _) [] _)) none _) _) _ _ _); k_dflt (refine' z_raiseB PySem.F.excCall_IndexError ?F ?X ?T ?e PyProof.Rows.Boot.«IndexError» ?hn ?hk ?hx ?hd ?he ?hp ?_; (case F => k_asm); (case X => k_asm); (case T => k_asm); (case e => k_is); (case hn => decide); (case hk => rfl); (case hx => rfl); (case hd => decide); (case he => rfl); (case hp => rfl))))
local macro_rules | `(tactic| walk_at "exec Raise some none") => `(tactic| (k_here; (fail_if_success (with_reducible show wpAny _ (Around.mark _ (some _)) _ _ _ _)); (with_reducible show wpAny _ _ (exec (Stmt.Raise (some (Expr.Call (Expr.Name _ _) (_ :: _) [] _)) none _) _) _ _ _); refine Raise_new rfl ?_))
/-! part R8 -/
theorem offR8 : True := by
  w_top off
  trivial
namespace Fm
open Builtin Builtin.Str
set_option maxRecDepth 100000
section
variable {prog : Program} {w : World} {A : Around} {E : Value → Shared → Prop} {s : Shared}
theorem field_man {id : String} {a : Array Value} {byName : PySem.Str → Sem Value} {name : List Nat} {i : Nat} {v : Value} {num : Numbering} {Q : Value × Numbering → Shared → Prop} (hn : num = .unset ∨ num = .manual) (hk : fieldKey name = .index i)
    (hs : name.span (fun c => c != 46 && c != 91) = (name, [])) (hne : name.isEmpty = false) (ha : a[i]? = some v)
    (h : Q (v, .manual) s) : wpAny (model prog w) A (fieldObject id (some a) byName name num) Q E s := by
  rcases hn with e | e
  all_goals
    subst e
    unfold fieldObject
    dsimp only
    rw [hs]
    dsimp only
    rw [hk, hne]
    refine wpAny_bind (wpAny_pure ?_)
    refine wpAny_bind (wpAny_pure ?_)
    simp only [ha, pure_bind]
    rw [KPc.range_list]
    exact wpAny_bind (wpAny_pure (wpAny_pure h))
theorem haab_err {t u : Tok} {y : PySem.Str} (hy : y.length ≤ 1000) : Meets («str.format» ⟨[.str (Str.ofString "'{0}' is not a valid Haab' month") t, .str y u], []⟩) (fun _ R s => ∀ t' k, R (.ok (.ret (.str ((Str.ofString "'" ++ y) ++ Str.ofString "' is not a valid Haab' month") t'))) { s with toks := k }) := by
  apply KPc.meets_of
  intro _ _ _ _ _ _ _
  unfold Builtin.«str.format»
  refine wpAny_bind (wpAny_of_eq (a := (_, _, _)) rfl ?_)
  refine wpAny_bind ?_
  unfold Builtin.Str.buildString
  refine wpAny_bind ?_
  rw [KPc.range_list]
  refine KFm.start ?_
  intro _ _
  refine KPc.turn ?_
  kpc_if
  kpc_check
  refine wpAny_bind (field_man (i := 0) (Or.inl rfl) rfl rfl rfl rfl ?_)
  refine wpAny_bind (wpAny_holding (wpAny_of_eq (a := _) rfl ?_))
  kpc_if
  refine wpAny_bind (wpAny_pure ?_)
  kfm_val
  refine wpAny_bind (wpAny_of_eq (a := some _) rfl ?_)
  refine wpAny_pure ?_
  refine KFm.after_field (by kpc_g) (by kpc_text) (by kpc_obj) (by kfm_len) (by kpc_obj) (by kfm_cat2) (by kfm_rest) ?_
  intro _ _
  refine KPc.turn ?_
  kpc_if
  kpc_check
  kfm_lit
  refine KPc.turn ?_
  kpc_if
  kfm_close
theorem tzol_err {t u : Tok} {y : PySem.Str} (hy : y.length ≤ 1000) : Meets («str.format» ⟨[.str (Str.ofString "'{0}' is not a valid Tzolk'in day name") t, .str y u], []⟩) (fun _ R s => ∀ t' k, R (.ok (.ret (.str ((Str.ofString "'" ++ y) ++ Str.ofString "' is not a valid Tzolk'in day name") t'))) { s with toks := k }) := by
  apply KPc.meets_of
  intro _ _ _ _ _ _ _
  unfold Builtin.«str.format»
  refine wpAny_bind (wpAny_of_eq (a := (_, _, _)) rfl ?_)
  refine wpAny_bind ?_
  unfold Builtin.Str.buildString
  refine wpAny_bind ?_
  rw [KPc.range_list]
  refine KFm.start ?_
  intro _ _
  refine KPc.turn ?_
  kpc_if
  kpc_check
  refine wpAny_bind (field_man (i := 0) (Or.inl rfl) rfl rfl rfl rfl ?_)
  refine wpAny_bind (wpAny_holding (wpAny_of_eq (a := _) rfl ?_))
  kpc_if
  refine wpAny_bind (wpAny_pure ?_)
  kfm_val
  refine wpAny_bind (wpAny_of_eq (a := some _) rfl ?_)
  refine wpAny_pure ?_
  refine KFm.after_field (by kpc_g) (by kpc_text) (by kpc_obj) (by kfm_len) (by kpc_obj) (by kfm_cat2) (by kfm_rest) ?_
  intro _ _
  refine KPc.turn ?_
  kpc_if
  kpc_check
  kfm_lit
  refine KPc.turn ?_
  kpc_if
  kfm_close
theorem args_5 (a b c d e : Value) : argsOk "str.format" ⟨[a, b, c, d, e], []⟩ := by
  unfold argsOk; rw [signature?_of (id := "str.format") (n := ['t', 'a', 'm', 'r', 'o', 'f']) (o := ['r', 't', 's']) (by kernel_rfl) F.owner_str]; kernel_rfl
theorem four {t u1 u2 u3 u4 : Tok} {i j : Int} {y z : PySem.Str} (hi : 0 ≤ i ∧ i < 1000) (hj : 0 ≤ j ∧ j < 1000) (hy : y.length ≤ 1000) (hz : z.length ≤ 1000) :
    Meets («str.format» ⟨[.str (Str.ofString "{0} {1} {2} {3}") t, .int i u1, .str y u2, .int j u3, .str z u4], []⟩)
      (fun _ R s => ∀ t' k, R (.ok (.ret (.str ((((((Str.ofString (toString i) ++ Str.ofString " ") ++ y) ++ Str.ofString " ") ++ Str.ofString (toString j)) ++ Str.ofString " ") ++ z) t'))) { s with toks := k }) := by
  have li : (Str.ofString (toString i)).length ≤ 10 := toString_length_le (k := 10) (by omega) (by decide) (by omega)
  have lj : (Str.ofString (toString j)).length ≤ 10 := toString_length_le (k := 10) (by omega) (by decide) (by omega)
  have gi : i.natAbs.log2 < 1920 := by
    have h1 : i.natAbs < 2 ^ 10 := by omega
    by_cases h0 : i.natAbs = 0
    · rw [h0]; decide
    · have := (Nat.log2_lt h0).mpr h1; omega
  have gj : j.natAbs.log2 < 1920 := by
    have h1 : j.natAbs < 2 ^ 10 := by omega
    by_cases h0 : j.natAbs = 0
    · rw [h0]; decide
    · have := (Nat.log2_lt h0).mpr h1; omega
  apply KPc.meets_of
  intro _ _ _ _ _ _ _
  unfold Builtin.«str.format»
  refine wpAny_bind (wpAny_of_eq (a := (_, _, _)) rfl ?_)
  refine wpAny_bind ?_
  unfold Builtin.Str.buildString
  refine wpAny_bind ?_
  rw [KPc.range_list]
  refine KFm.start ?_
  intro _ _
  -- {0}
  refine KPc.turn ?_
  kpc_if
  kpc_check
  refine wpAny_bind (field_man (i := 0) (Or.inl rfl) rfl rfl rfl rfl ?_)
  refine wpAny_bind (wpAny_holding (wpAny_of_eq (a := _) rfl ?_))
  kpc_if
  refine wpAny_bind (wpAny_pure ?_)
  refine wpAny_bind (wpAny_holding (KFm.formatOf_int gi ?_))
  intro _ _
  refine wpAny_bind (wpAny_of_eq (a := some _) rfl ?_)
  refine wpAny_pure ?_
  refine KFm.after_field (K := 10) (by kpc_g) (by kpc_text) (by kpc_obj) li (by kpc_obj) (by kfm_cat2) (by kfm_rest) ?_
  intro _ _
  -- {1}
  refine KPc.turn ?_
  kpc_if
  kpc_check
  refine wpAny_bind (field_man (i := 1) (Or.inr rfl) rfl rfl rfl rfl ?_)
  refine wpAny_bind (wpAny_holding (wpAny_of_eq (a := _) rfl ?_))
  kpc_if
  refine wpAny_bind (wpAny_pure ?_)
  kfm_val
  refine wpAny_bind (wpAny_of_eq (a := some _) rfl ?_)
  refine wpAny_pure ?_
  refine KFm.after_field (K := 1000) (by kpc_g) (by kpc_text) (by kpc_obj) hy (by kpc_obj) (by kfm_cat2) (by kfm_rest) ?_
  intro _ _
  -- {2}
  refine KPc.turn ?_
  kpc_if
  kpc_check
  refine wpAny_bind (field_man (i := 2) (Or.inr rfl) rfl rfl rfl rfl ?_)
  refine wpAny_bind (wpAny_holding (wpAny_of_eq (a := _) rfl ?_))
  kpc_if
  refine wpAny_bind (wpAny_pure ?_)
  refine wpAny_bind (wpAny_holding (KFm.formatOf_int gj ?_))
  intro _ _
  refine wpAny_bind (wpAny_of_eq (a := some _) rfl ?_)
  refine wpAny_pure ?_
  refine KFm.after_field (K := 10) (by kpc_g) (by kpc_text) (by kpc_obj) lj (by kpc_obj) (by kfm_cat2) (by kfm_rest) ?_
  intro _ _
  -- {3}
  refine KPc.turn ?_
  kpc_if
  kpc_check
  refine wpAny_bind (field_man (i := 3) (Or.inr rfl) rfl rfl rfl rfl ?_)
  refine wpAny_bind (wpAny_holding (wpAny_of_eq (a := _) rfl ?_))
  kpc_if
  refine wpAny_bind (wpAny_pure ?_)
  kfm_val
  refine wpAny_bind (wpAny_of_eq (a := some _) rfl ?_)
  refine wpAny_pure ?_
  refine KFm.after_field (K := 1000) (by kpc_g) (by kpc_text) (by kpc_obj) hz (by kpc_obj) (by kfm_cat2) (by kfm_rest) ?_
  intro _ _
  refine KPc.turn ?_
  kpc_if
  kfm_close
end
end Fm
theorem Rz.sub {base g : Heap} {outer : List Env} {e : Addr} {X : String} {news news' : List (Addr × Obj)} {h : Heap} (R : Rz base g outer e X news' h) (hs : ∀ q ∈ news, q ∈ news') : Rz base g outer e X news h := by
  obtain ⟨⟨B, a0, h1, h2, h3, h4⟩, U⟩ := R
  exact ⟨⟨B, a0, h1, h2, fun q hq => h3 q (hs q hq), h4⟩, U⟩
section
variable {prog : Program} {w : World} {A : Around} {E : Value → Shared → Prop} {s : Shared} {Q : Value → Shared → Prop} {t u : Tok} {a n : Int}
theorem r_mod_ii (hn : 0 < n) (h : ∀ k, k = a % n → Q (.int k s.toks) { s with toks := s.toks + 1 }) : wpAny (model prog w) A (binaryOp .Mod (.int a t) (.int n u)) Q E s :=
  mod_int' (by omega) (h _ (Int.fmod_eq_emod_of_nonneg a (Int.le_of_lt hn)))
end
local macro_rules | `(tactic| walk_at "binaryOp Mod int int") => `(tactic| (k_here; (with_reducible show wpAny _ _ (binaryOp _ (Value.int _ _) (Value.int _ _)) _ _ _); k_dflt (refine' r_mod_ii ?k1 ?_; (case k1 => omega)); intro c' hc'))
theorem moon_len_all : ∀ i, i < 19 → (moons.getD i "").length ≤ 1000 := by decide +kernel
theorem name_len_all : ∀ i, i < 20 → (names20.getD i "").length ≤ 1000 := by decide +kernel
theorem moonAt_len {k : Int} (h : 0 ≤ k ∧ k < 19) : (moonAt k).length ≤ 1000 := moon_len_all _ (by omega)
theorem nameAt_len {k : Int} (h : 0 ≤ k ∧ k < 20) : (nameAt k).length ≤ 1000 := name_len_all _ (by omega)
theorem moon_len {mi : Int} {mo : Str} (hm : (0 ≤ mi ∧ mi < 19 ∧ mo = moonAt mi) ∨ (mi = -1 ∧ mo = "Nobody")) : mo.length ≤ 1000 := by
  rcases hm with ⟨h0, h1, rfl⟩ | ⟨_, rfl⟩
  · exact moonAt_len ⟨h0, h1⟩
  · decide +kernel
theorem name_len {mi : Int} {mo : Str} (hm : (0 ≤ mi ∧ mi < 20 ∧ mo = nameAt mi) ∨ (mi = -1 ∧ mo = "Nobody")) : mo.length ≤ 1000 := by
  rcases hm with ⟨h0, h1, rfl⟩ | ⟨_, rfl⟩
  · exact nameAt_len ⟨h0, h1⟩
  · decide +kernel
local macro_rules | `(tactic| walk_at "call builtin:str.format") => `(tactic| (k_here; (with_reducible show wpAny _ _ (call (Value.builtin "str.format") [Value.str (Str.ofString "'{0}' is not a valid Haab' month") _, Value.str _ _]) _ _ _); (refine' KFm.call_k rfl (KFm.args_2 _ _) (Fm.haab_err ?hy) ?_; (case hy => exact moon_len (by assumption))); intro _ _))
local macro_rules | `(tactic| walk_at "call builtin:str.format") => `(tactic| (k_here; (with_reducible show wpAny _ _ (call (Value.builtin "str.format") [Value.str (Str.ofString "'{0}' is not a valid Tzolk'in day name") _, Value.str _ _]) _ _ _); (refine' KFm.call_k rfl (KFm.args_2 _ _) (Fm.tzol_err ?hy) ?_; (case hy => exact name_len (by assumption))); intro _ _))
local macro_rules | `(tactic| walk_at "call builtin:str.format") => `(tactic| (k_here; (with_reducible show wpAny _ _ (call (Value.builtin "str.format") [Value.str (Str.ofString "{0} {1} {2} {3}") _, Value.int _ _, Value.str _ _, Value.int _ _, Value.str _ _]) _ _ _); (refine' KFm.call_k rfl (Fm.args_5 _ _ _ _ _) (Fm.four ?hi ?hj ?hy ?hz) ?_; (case hi => omega); (case hj => omega); (case hy => exact nameAt_len (by omega)); (case hz => exact moonAt_len (by omega))); intro _ _))
/-! part C4 -/
theorem offC4 : True := by
  w_top off
  trivial
section
variable {w : World} {dp un : Nat} {gd : Option (List Code)} {cn : Str} {cs : Scope} {a : Addr} {ccd : Value} {cl : List (Str × Addr)} {outer : List Env} {A₀ : Around} {base h₀ : Heap} {L : Addr} {m mg mb : Str → Option Value} {mean : ExcName → Option Value} {s : Shared} {Q E : Value → Shared → Prop} {news : List (Addr × Obj)}
set_option maxRecDepth 100000 in
set_option maxHeartbeats 4000000 in
theorem hc_c (C : Cx w A₀ base h₀ outer L m mg mb mean s news cs dp un 2) {day mi : Int} {mo : Str} {t1 t2 : Tok} (hm : (0 ≤ mi ∧ mi < 19 ∧ mo = moonAt mi) ∨ (mi = -1 ∧ mo = "Nobody"))
    (ret : ∀ c tk h' tk', 0 ≤ day ∧ day < 20 → 0 ≤ mi → c = 20 * mi + day → Fr h₀ L h' m → News h₀ L h' news → Q (.int c tk) { s with heap := h', toks := tk' })
    (rI : ∀ g e h' tk', ¬ (0 ≤ day ∧ day < 20) → Fr h₀ L g m → Rz base g (envX cn cs L a ccd cl :: outer) e "IndexError" news h' → E (.ref e) { s with heap := h', toks := tk' })
    (rV : ∀ g e h' tk', mi = -1 → Fr h₀ L g m → Rz base g (envX cn cs L a ccd cl :: outer) e "ValueError" news h' → E (.ref e) { s with heap := h', toks := tk' }) :
    wpAny (model Challenge.rw_ak5005_01.row.prog w) (ktrTop dp un gd cn cs L a ccd cl outer) (call (.ref 107) [.int day t1, .str mo t2]) Q E s := by
  obtain ⟨B, F, X, N, T, hk, XB, TB, hdp, hun⟩ := C
  revert X; k_fill; intro X
  refine wpAny_call ?_
  k_dflt cell_enter
  k_steps
  all_goals first
    | exact rI _ _ _ _ (by omega) (by assumption) (by assumption)
    | (refine' ret _ _ _ _ ?h1 ?h2 ?h3 ?h4 ?h5; (case h4 => k_asm); (case h5 => k_asm); (case h1 => omega); (case h2 => omega); (case h3 => (split <;> omega)))
    | (k_dflt (refine' raise_as_out PySem.F.excRaise_ValueError PySem.F.excRaise_ValueError ?K ?F ?N ?H ?hx ?hm ?hk ?hlo ?hd ?hc ?hQ; (case K => assumption); (case F => k_asm); (case N => k_asm); (case H => assumption); (case hx => assumption); (case hm => rfl); (case hk => rfl); (case hlo => rfl); (case hd => decide); (case hc => rfl)); intro h9 tk9 R9; exact rV _ _ _ _ (by assumption) (by assumption) (Rz.turn (by assumption) R9))
end
/-! part C5 -/
theorem offC5 : True := by
  w_top off
  trivial
theorem moon_ne_nobody {k : Int} (h : 0 ≤ k ∧ k < 19) : moonAt k ≠ "Nobody" := moons_no k.toNat (by show k.toNat < 19; omega)
theorem moonAt_inj {j k : Int} (hj : 0 ≤ j ∧ j < 19) (hk : 0 ≤ k ∧ k < 19) (h : moonAt j = moonAt k) : j = k := by
  rcases Int.lt_trichotomy j k with q | q | q
  · exact absurd h (moons_inj k.toNat (by omega) j.toNat (by omega))
  · exact q
  · exact absurd h.symm (moons_inj j.toNat (by omega) k.toNat (by omega))
theorem name_ne_nobody {k : Int} (h : 0 ≤ k ∧ k < 20) : nameAt k ≠ "Nobody" := names_no k.toNat (by show k.toNat < 20; omega)
theorem nameAt_inj {j k : Int} (hj : 0 ≤ j ∧ j < 20) (hk : 0 ≤ k ∧ k < 20) (h : nameAt j = nameAt k) : j = k := by
  rcases Int.lt_trichotomy j k with q | q | q
  · exact absurd h (names_inj k.toNat (by omega) j.toNat (by omega))
  · exact q
  · exact absurd h.symm (names_inj j.toNat (by omega) k.toNat (by omega))
section
variable {prog : Program} {w : World} {A : Around} {E : Value → Shared → Prop} {s : Shared} {Q : Value → Shared → Prop} {t u : Tok}
theorem moon_eq {j mi : Int} {mo : Str} (hj : 0 ≤ j ∧ j < 19) (hm : (0 ≤ mi ∧ mi < 19 ∧ mo = moonAt mi) ∨ (mi = -1 ∧ mo = "Nobody")) : (moonAt j = mo) ↔ j = mi := by
  rcases hm with ⟨h0, h1, rfl⟩ | ⟨rfl, rfl⟩
  · exact ⟨moonAt_inj hj ⟨h0, h1⟩, fun e => by rw [e]⟩
  · exact ⟨fun e => absurd e (moon_ne_nobody hj), fun e => by omega⟩
theorem r_eq_moon {j mi : Int} {mo : Str} (hj : 0 ≤ j ∧ j < 19) (hm : (0 ≤ mi ∧ mi < 19 ∧ mo = moonAt mi) ∨ (mi = -1 ∧ mo = "Nobody")) (h : Q (.bool (decide (j = mi))) s) :
    wpAny (model prog w) A (compareOp .Eq (.str (moonAt j) t) (.str mo u)) Q E s := by
  have e : (moonAt j == mo) = decide (j = mi) := by
    by_cases q : j = mi
    · rw [(moon_eq hj hm).mpr q]; simp [q]
    · have : moonAt j ≠ mo := fun z => q ((moon_eq hj hm).mp z)
      simp [q, this]
  exact eq_str (by rw [e]; exact h)
end
local macro_rules | `(tactic| walk_at "compareOp Eq str str") => `(tactic| (k_here; (with_reducible show wpAny _ _ (compareOp _ (Value.str (moonAt _) _) (Value.str _ _)) _ _ _); k_dflt (refine' r_eq_moon ?k1 ?k2 ?_; (case k1 => omega); (case k2 => assumption))))
local macro_rules | `(tactic| walk_at "call ref") => `(tactic| (k_here; (with_reducible show wpAny _ _ (call (Value.ref 107) [_, Value.str (moonAt _) _]) _ _ _); k_dflt (refine' hc_c (Cx.mk ?cB ?cF ?cX ?cN ?cT ?ck ?cXB ?cTB ?cd ?cu) (Or.inl ⟨?h1, ?h2, rfl⟩) (fun c' t' h' tk' hq1' hq2' hc' F' N' => ?_) (fun g' e' h' tk' hn' F' R' => ?h3) (fun g' e' h' tk' hn' F' R' => ?h4); (case cB => k_asm); (case cF => k_asm); (case cX => k_asm); (case cN => k_asm); (case cT => k_asm); (case ck => first | exact rfl | assumption); (case cXB => assumption); (case cTB => assumption); (case cd => ktr_room); (case cu => ktr_units); (case h1 => omega); (case h2 => omega); (case h3 => (exfalso; omega)); (case h4 => (exfalso; omega)))))
local macro_rules | `(tactic| walk_at "call ref") => `(tactic| (k_here; (with_reducible show wpAny _ _ (call (Value.ref 107) [_, Value.str _ _]) _ _ _); k_dflt (refine' hc_c (Cx.mk ?cB ?cF ?cX ?cN ?cT ?ck ?cXB ?cTB ?cd ?cu) ?h1 (fun c' t' h' tk' hq1' hq2' hc' F' N' => ?_) (fun g' e' h' tk' hn' F' R' => ?_) (fun g' e' h' tk' hn' F' R' => ?_); (case cB => k_asm); (case cF => k_asm); (case cX => k_asm); (case cN => k_asm); (case cT => k_asm); (case ck => first | exact rfl | assumption); (case cXB => assumption); (case cTB => assumption); (case cd => ktr_room); (case cu => ktr_units); (case h1 => assumption))))
local macro_rules | `(tactic| walk_at "call ref") => `(tactic| (k_here; (with_reducible show wpAny _ _ (call (Value.ref 107) [Value.int 1 _, Value.str _ _]) _ _ _); k_dflt (refine' hc_c (Cx.mk ?cB ?cF ?cX ?cN ?cT ?ck ?cXB ?cTB ?cd ?cu) ?h1 (fun c' t' h' tk' hq1' hq2' hc' F' N' => ?_) (fun g' e' h' tk' hn' F' R' => ?h3) (fun g' e' h' tk' hn' F' R' => ?_); (case cB => k_asm); (case cF => k_asm); (case cX => k_asm); (case cN => k_asm); (case cT => k_asm); (case ck => first | exact rfl | assumption); (case cXB => assumption); (case cTB => assumption); (case cd => ktr_room); (case cu => ktr_units); (case h1 => assumption); (case h3 => (exfalso; omega)))))
section
variable {w : World} {dp un : Nat} {gd : Option (List Code)} {cn : Str} {cs : Scope} {a : Addr} {ccd : Value} {cl : List (Str × Addr)} {outer : List Env} {A₀ : Around} {base h₀ : Heap} {L : Addr} {m mg mb : Str → Option Value} {mean : ExcName → Option Value} {s : Shared} {Q E : Value → Shared → Prop} {news : List (Addr × Obj)}
set_option maxRecDepth 100000 in
set_option maxHeartbeats 4000000 in
theorem next_haab_c (C : Cx w A₀ base h₀ outer L m mg mb mean s news cs dp un 4) {x : UInt64} {z mi : Int} {mo : Str} {t1 t2 : Tok} (hx : HV x z) (hz : z % 2 = 1 ∧ -2 ^ 30 ≤ z ∧ z < 2 ^ 29) (hm : (0 ≤ mi ∧ mi < 19 ∧ mo = moonAt mi) ∨ (mi = -1 ∧ mo = "Nobody"))
    (ret : ∀ y c p tk h' tk', HV y c → 1168565 ≤ z → 0 ≤ mi → p = (z / 2 - 584282 + 348) % 365 → (p / 20 ≠ mi ∨ p % 20 < 2 → c = z + 2 * ((20 * mi + 1 - p) % 365)) → Fr h₀ L h' m → News h₀ L h' news → Q (.float y tk) { s with heap := h', toks := tk' })
    (rI : ∀ g e h' tk', z < 1168565 → Fr h₀ L g m → Rz base g (envX cn cs L a ccd cl :: outer) e "IndexError" news h' → E (.ref e) { s with heap := h', toks := tk' })
    (rV : ∀ g e h' tk', 1168565 ≤ z → mi = -1 → Fr h₀ L g m → Rz base g (envX cn cs L a ccd cl :: outer) e "ValueError" news h' → E (.ref e) { s with heap := h', toks := tk' }) :
    wpAny (model Challenge.rw_ak5005_01.row.prog w) (ktrTop dp un gd cn cs L a ccd cl outer) (call (.ref 121) [.str mo t1, .float x t2]) Q E s := by
  obtain ⟨B, F, X, N, T, hk, XB, TB, hdp, hun⟩ := C
  revert X; k_fill; intro X
  refine wpAny_call ?_
  k_dflt cell_enter
  k_steps
  all_goals first
    | exact rI _ _ _ _ (by omega) (by assumption) (Rz.sub (by assumption) (by first | exact fun _ h => h | exact fun _ h => .tail _ h))
    | exact rV _ _ _ _ (by omega) (by omega) (by assumption) (Rz.sub (by assumption) (by first | exact fun _ h => h | exact fun _ h => .tail _ h))
    | (refine' ret _ _ _ _ _ _ ?h0 ?h1 ?h2 rfl ?h3 ?h4 ?h5; (case h0 => assumption); (case h4 => k_asm); (case h5 => exact cb_drop (by k_asm) (fun _ h => .tail _ h)); (case h1 => omega); (case h2 => omega); (case h3 => omega))
end
/-! part S1 -/
theorem offS1 : True := by
  w_top off
  trivial
set_option maxRecDepth 100000
theorem sub_gen_set : isSubtype (.type "generator") (.type "set") = pure false := by rw [isSubtype_type]; kernel_rfl
theorem sub_gen_frozenset : isSubtype (.type "generator") (.type "frozenset") = pure false := by rw [isSubtype_type]; kernel_rfl
section
variable {prog : Program} {w : World} {A : Around} {E : Value → Shared → Prop} {s : Shared}
set_option maxHeartbeats 3200000 in
/-- set(generator of ints) -/
theorem call_set_walk {I : Addr} {fp wr : List Addr} {g0 : Nat} {n : Nat} {P : Nat → Value → Prop} {St : Nat → Shared → Prop} {val : Nat → Int} {Q : Value → Shared → Prop}
    (W : WalksS prog w A.in1.in1.in1.in1 I fp wr (GenOnlyQ g0) n P St) (hst : St 0 s) (hT : ∀ i s', St i s' → s'.TypeIs (.ref I) "generator") (hfp : ∀ b ∈ fp, b < s.heap.objs.size) (hI : I ∈ fp)
    (hval : ∀ j v, P j v → ∃ t, v = .int (val j) t) (hb : n + 1 < scanBound)
    (h : ∀ s', Moved (s.heap.objs.size :: wr) (GenOnlyQ g0) s s' →
      s'.heap.SetOf (intKind prog w) s.heap.objs.size (fun k' => (firstMet val n).any (· == k')) (firstMet val n).length → Q (.ref s.heap.objs.size) s') :
    wpAny (model prog w) A (call (.type "set") [.ref I]) Q E s := by
  obtain ⟨c, tl, hmro⟩ := F.called_set.mro
  have hmade := F.called_set.made
  have hsub := F.called_set.sub
  have hIlt := hfp I hI
  refine wpAny_call (codeAny_of_tree ?_)
  show wpAny _ _ (callAny (.type "set") _) _ _ _
  refine wpAny_pure ⟨Code.quiet_builtin _ (by decide +kernel), codeAny_builtin F.entry_type_call ?_⟩
  rw [Around.under_plain (weight_type_call_type "set" [.ref I] []) rfl]
  have h1 := F.called_set.notType
  have h2 := F.called_set.canCreate
  have hct := F.typeCall_set_1 (.ref I)
  repeat (any_goals (first | assumption | wp_step))
  refine codeAny_mono (code_set_new_1 (.ref I) (E := E) (Q₁ := fun obj s₁ => ∃ led : Bool, obj = .ref s.heap.objs.size ∧ s₁ = { s with heap := s.heap.push { cls := .type "set", dict := none, data := .set #[] 0 (.fresh 0 0 led) } }) fun led => ⟨led, rfl, rfl⟩) fun r s₁ hr => ?_
  cases r with
  | error e => exact hr
  | ok fl =>
    cases fl with
    | ret obj =>
      obtain ⟨led, rfl, rfl⟩ := hr
      have hS : (s.heap.push { cls := .type "set", dict := none, data := .set #[] 0 (.fresh 0 0 led) }).get? s.heap.objs.size = some { cls := .type "set", dict := none, data := .set #[] 0 (.fresh 0 0 led) } := Heap.get?_push_size _ rfl
      have hT1 : Shared.TypeIs { s with heap := s.heap.push { cls := .type "set", dict := none, data := .set #[] 0 (.fresh 0 0 led) } } (.ref s.heap.objs.size) "set" := ⟨_, hS, rfl⟩
      have hli := F.called_set.init.lookup
      have hbi := F.called_set.init.bind (.ref s.heap.objs.size)
      repeat (any_goals (first | assumption | wp_step))
      refine codeAny_mono (codeAny_call_builtin (R := wants (fun r s₂ => r = .none ∧ Moved (s.heap.objs.size :: wr) (GenOnlyQ g0) s s₂ ∧
          s₂.heap.SetOf (intKind prog w) s.heap.objs.size (fun k' => (firstMet val n).any (· == k')) (firstMet val n).length) E) F.called_set.init.plain F.entry_set_init (check_set_init_1 hT1 ?_)) fun r₂ s₂ hr₂ => ?_
      · have hst1 : St 0 { s with heap := s.heap.push { cls := .type "set", dict := none, data := .set #[] 0 (.fresh 0 0 led) } } :=
          W.frame 0 s _ s.toks hst (Nat.le_refl _) fun b _ o e => Heap.get?_push_of_some _ e
        obtain ⟨oI, hoI, hcI⟩ := hT _ _ hst1
        have hsls := sub_gen_set
        have hslf := sub_gen_frozenset
        have hne : (Value.type "generator" == Value.type "dict") = false := by decide
        obtain ⟨ocls, odict, odata, oslots⟩ := oI
        simp only at hcI
        subst hcI
        unfold Builtin.«set.__init__» noKeywords Builtin.Frozenset.updateFrom
        generalize hPI : pyIter = PI
        wp_walk
        subst hPI
        clear hsls hslf hne h1 h2 hct hli hbi hmro hmade hsub
        refine W.of_in1.of_in1.self 0 _ _ _ hst1 ?_
        refine wpAny_bind (wpAny_runValue ?_)
        have hSf : s.heap.objs.size ∉ fp := fun hm => Nat.lt_irrefl _ (hfp _ hm)
        refine codeAny_set_update_loopS W.of_in1 s.heap.objs.size hSf val hval hb (n - 0) 0 _ (by omega) (Nat.zero_le _) hst1
          (SetOf_congr ((setObjOf_fresh (knd := intKind prog w) led).setOf hS (by unfold scanBound; omega)) (fun _ => rfl) rfl) ?hR
        intro s' hm hS'
        refine wpAny_pure ?_
        refine wpAny_pure ⟨rfl, ⟨fun b o hb' e => ?_, hm.gens, hm.drawn, hm.os, hm.toks⟩, hS'⟩
        exact hm.heap b o hb' (Heap.get?_push_of_some _ e)
      · cases r₂ with
        | error e => exact hr₂
        | ok fl₂ =>
          cases fl₂ with
          | ret r =>
            obtain ⟨rfl, hm, hS'⟩ := hr₂
            repeat (any_goals (first | assumption | wp_step))
            exact h _ hm hS'
          | _ => exact hr₂.elim
    | _ => exact hr.elim
end
/-! part S2 -/
theorem offS2 : True := by
  w_top off
  trivial
section
variable {prog : Program} {w : World} {A : Around} {E : Value → Shared → Prop} {s : Shared} {h₀ : Heap} {L : Addr} {m : Str → Option Value} {news : List (Addr × Obj)} {Q : Value → Shared → Prop}
/-- set(generator of ints) over the ledger -/
theorem set_gen_K {K a : Addr} {n : Nat} {P : Nat → Value → Prop} {val : Nat → Int} (F : Fr h₀ L s.heap m) (N : News h₀ L s.heap news) (G : AllBare s.gens) (X : Gen prog w A K a n P s) (hLK : L ≤ K) (hK : ∀ q ∈ news, q.1 ≤ K)
    (hval : ∀ j v, P j v → ∃ t, v = .int (val j) t) (hb : n + 1 < scanBound)
    (h : ∀ D o h' gs tk, Fr h₀ L h' m → News h₀ L h' ((D, o) :: news) → AllBare gs → o.IntSetOf (fun k' => (firstMet val n).any (· == k')) (firstMet val n).length → (∀ q ∈ news, q.1 < D) →
      Q (.ref D) { s with heap := h', gens := gs, toks := tk }) :
    wpAny (model prog w) A (call (.type "set") [.ref a]) Q E s := by
  obtain ⟨fp, wr, g0, St, W, hst, hT, ha, hfp, hwr⟩ := X
  have hLlt : L < s.heap.objs.size := F.ns.lt
  refine call_set_walk W hst hT hfp ha hval hb fun s' hm hS => ?_
  obtain ⟨o, ho, hso⟩ := hS.objOf
  obtain ⟨h', gs, d, tk, os⟩ := s'
  have e1 : d = s.drawn := hm.drawn
  have e2 : os = s.os := hm.os
  subst e1; subst e2
  have hwr' : ∀ b ∈ s.heap.objs.size :: wr, L < b := fun b hb' => (List.mem_cons.mp hb').elim (fun e => e ▸ hLlt) fun hb'' => Nat.lt_of_le_of_lt hLK (hwr b hb'')
  have F' : Fr h₀ L h' m := F.moved hm hwr'
  refine h _ o h' gs tk F' (fun q hq => ?_) (G.movedS hm) hso.intSetOf fun q hq => Heap.lt_size (N q hq).1
  rcases List.mem_cons.mp hq with rfl | hq
  · exact ⟨ho, Nat.ne_of_gt hLlt, Heap.get?_none_of_le (Nat.le_trans F.above (Nat.le_of_lt hLlt))⟩
  · refine ⟨hm.heap _ _ (fun hmem => ?_) (N q hq).1, (N q hq).2⟩
    rcases List.mem_cons.mp hmem with e | hmem
    · exact Nat.lt_irrefl _ (e ▸ Heap.lt_size (N q hq).1)
    · exact Nat.lt_irrefl _ (Nat.lt_of_lt_of_le (hwr _ hmem) (hK q hq))
end
/-! part S3 -/
theorem offS3 : True := by
  w_top off
  trivial
set_option maxRecDepth 100000
section
variable {M : Model} {A : Around} {E : Value → Shared → Prop} {s : Shared}
theorem genexpr_hit {env : Env} {c P : Addr} {ps : Array Value} {pos : Pos} {qualname : Str} {scope : Scope} {v : Value} {Q : Value → Shared → Prop} (hc : env.code = .ref c) (C : CodeHd s.heap c P) (hP : s.heap.get? P = some (tabObj ps))
    (hf : codeAmong pos ps.toList = some v) (h : Q v s) : wpAny M A (genexprCode env pos qualname scope) Q E s := by
  obtain ⟨o, vs, file, tf, flags, tg, inF, text, tt, ho, _, hd, _, h11, _⟩ := C
  unfold genexprCode codeAt
  rw [hc, if_neg (show ¬ ((Value.ref c == Value.none) = true) from Bool.false_ne_true)]
  refine wpAny_bind (wpAny_fieldsOf ho hd ?_)
  rw [h11]
  refine wpAny_bind (wpAny_fieldsOf hP rfl ?_)
  rw [hf]
  exact wpAny_pure h
end
/-- either the table holds the code already, or it is added -/
theorem genexpr_code {M : Model} {A : Around} {E : Value → Shared → Prop} {s : Shared} {env : Env} {c P : Addr} {ps : Array Value} {pos : Pos} {qualname : Str} {scope : Scope} {Q : Value → Shared → Prop} (hc : env.code = .ref c) (C : CodeHd s.heap c P) (hP : s.heap.get? P = some (tabObj ps)) (ht : TriplesOk ps.toList)
    (h : ∀ v ps' h' tk, TriplesOk ps'.toList → Heap.ExtBut P s.heap h' → s.heap.objs.size ≤ h'.objs.size → h'.get? P = some (tabObj ps') → Q v { s with heap := h', toks := tk }) :
    wpAny M A (genexprCode env pos qualname scope) Q E s := by
  cases hq : codeAmong pos ps.toList with
  | some v => exact genexpr_hit hc C hP hq (h v ps s.heap s.toks ht (fun b o _ e => e) (Nat.le_refl _) hP)
  | none =>
    refine wpAny_genexprCodeX hc (C.code hP ht) (C.tab hP) hq fun c' h' tk hx hge hlt _ _ htab _ => h _ _ h' tk ?_ hx (Nat.le_trans hge (Nat.le_of_lt hlt)) htab.2
    have : (ps ++ #[rawInt pos.line, rawInt pos.col, Value.ref c']).toList = ps.toList ++ [rawInt pos.line, rawInt pos.col, Value.ref c'] := by simp
    rw [this]
    exact TriplesOk_snoc _ _ _ _ ht

theorem mem_set_erase {α : Type} {l : List α} {i : Nat} {x q : α} (h : q ∈ l.set i x) : q = x ∨ q ∈ l.eraseIdx i := by
  induction l generalizing i with
  | nil => cases i <;> simp at h
  | cons y l ih =>
    cases i with
    | zero => simpa using h
    | succ i =>
      rcases List.mem_cons.mp h with e | h
      · exact .inr (by simp [e])
      · rcases ih h with e | h
        · exact .inl e
        · exact .inr (.tail _ h)
theorem mem_of_erase {α : Type} {l : List α} {i : Nat} {q : α} (h : q ∈ l.eraseIdx i) : q ∈ l := List.mem_of_mem_eraseIdx h

/-- what is left to show when the iterable of (x + y for x in range(..)) has been reckoned -/
def GenNext (prog : Program) (w : World) (A : Around) (h₀ : Heap) (L : Addr) (m : Str → Option Value) (c : Addr) (cl : List (Str × Addr)) (y : Str) (Q : Value → Shared → Prop) (xv : Value) (s₁ : Shared) : Prop :=
  ∃ r a0 b0 c0 t u v n news P ps i cy oy dv dt, xv = .ref r ∧ IsRange s₁.heap r a0 b0 c0 t u v ∧ Builtin.Range.small a0 b0 c0 = true ∧ Builtin.Range.rangeSize a0 b0 c0 = (n : Nat) ∧
    Fr h₀ L s₁.heap m ∧ News h₀ L s₁.heap news ∧ news[i]? = some (P, tabObj ps) ∧ (∀ q ∈ news.eraseIdx i, q.1 ≠ P) ∧ TriplesOk ps.toList ∧ CodeHd h₀ c P ∧ AllBare s₁.gens ∧
    cl.lookup y = some cy ∧ (cy, oy) ∈ news ∧ oy.data = .cell (some (.int dv dt)) ∧
    ∀ K a ps' h₅ gs tk, L ≤ K → (∀ q ∈ news.set i (P, tabObj ps'), q.1 ≤ K) → TriplesOk ps'.toList → Fr h₀ L h₅ m → News h₀ L h₅ (news.set i (P, tabObj ps')) → AllBare gs →
      Gen prog w A K a n (fun j v => ∃ t, v = .int (a0 + (j : Nat) * c0 + dv) t) { s₁ with heap := h₅, gens := gs, toks := tk } → Q (.ref a) { s₁ with heap := h₅, gens := gs, toks := tk }

section
variable {prog : Program} {w : World} {A : Around} {E : Value → Shared → Prop} {s : Shared} {h₀ : Heap} {L a c : Addr} {m mg mb : Str → Option Value} {cn : Str} {cs : Scope} {cl : List (Str × Addr)} {p : Program} {loose : List Str} {mean : ExcName → Option Value}
theorem gen_K {iter : Expr} {x y : Str} {px p1 p2 p3 : Pos} {scope : Scope} {cl' : List (Str × Addr)} {pos : Pos} {Q : Value → Shared → Prop} (T : Top p loose mean mg mb h₀)
    (hh : A.handled = none) (hco : scope.isCoroutine = false) (hclos : closureFor scope (envX cn cs L a (.ref c) cl) = pure cl') (hcell : ∀ y ∈ scope.names, y.2 ≠ .cell) (h0 : scope.names.lookup (".0" : Str) = some NameKind.local)
    (hx : scope.names.lookup x = some .local) (hkind : scope.kind = .function) (hroom : A.depth < recursionLimit) (hy : scope.names.lookup y = some .free) (hxd : (x == ("__debug__" : Str)) = false) (hyd : (y == ("__debug__" : Str)) = false) (hyc : (y == ("__classdict__" : Str)) = false)
    (hcl : ∀ cy, cl.lookup y = some cy → cl'.lookup y = some cy)
    (h : wpAny (model prog w) A (eval iter (envX cn cs L a (.ref c) cl)) (GenNext prog w A h₀ L m c cl y Q) E s)
    (hs : ∀ x, genFold iter (envX cn cs L a (.ref c) cl) x = pure x) :
    wpAny (model prog w) A (eval (.GeneratorExp (.BinOp (.Name x p1) .Add (.Name y p2) p3) [⟨.Name x px, iter, [], 0⟩] scope pos) (envX cn cs L a (.ref c) cl)) Q E s := by
  refine wpAny_GeneratorExp_walksQD hh hco hclos hcell h0 hx hkind hroom (wpAny_mono h (fun xv s₁ h₁ => ?_) fun _ _ e => e) hs
  obtain ⟨r, a0, b0, c0, t, u, v, n, news, P, ps, i, cy, oy, dv, dt, rfl, hr, hsm, hn, F, N, hi, hdis, htr, C, G, hcy, hmy, hdy, hQ⟩ := h₁
  have hPn := N _ (List.mem_of_getElem? hi)
  have hLlt : L < s₁.heap.objs.size := F.ns.lt
  have hPlt : P < s₁.heap.objs.size := Heap.lt_size hPn.1
  have hcylt : cy < s₁.heap.objs.size := Heap.lt_size (N _ hmy).1
  refine wpAny_pyIter_range hr hsm ?_
  have keep₂ : ∀ b o, s₁.heap.get? b = some o → (s₁.heap.push { cls := .type "range_iterator", data := .fields #[rawInt a0, rawInt (Builtin.Range.rangeSize a0 b0 c0), rawInt c0] }).get? b = some o := fun _ _ e => Heap.get?_push_of_some _ e
  have hI : IsRangeIter (s₁.heap.push { cls := .type "range_iterator", data := .fields #[rawInt a0, rawInt (Builtin.Range.rangeSize a0 b0 c0), rawInt c0] }) s₁.heap.objs.size (a0 + ((0 : Nat) : Int) * c0) ((n : Int) - ((0 : Nat) : Int)) c0 := by
    show Heap.get? _ _ = _
    rw [hn]
    simpa using Heap.get?_push_size _ rfl
  have hsz₂ : (s₁.heap.push { cls := .type "range_iterator", data := .fields #[rawInt a0, rawInt (Builtin.Range.rangeSize a0 b0 c0), rawInt c0] }).objs.size = s₁.heap.objs.size + 1 := Heap.size_push ..
  generalize (s₁.heap.push { cls := .type "range_iterator", data := .fields #[rawInt a0, rawInt (Builtin.Range.rangeSize a0 b0 c0), rawInt c0] }) = h₂ at keep₂ hI hsz₂
  have F₂ : Fr h₀ L h₂ m := F.keeps keep₂
  have hlim₂ : h₂.NoLimit := T.nolimit.keeps F₂.keep
  refine ⟨hlim₂, genexpr_code (s := { s₁ with heap := h₂ }) rfl (C.keeps F₂.keep) (keep₂ _ _ hPn.1) htr fun code ps' h₃ tk₃ htr' hx₃ hge₃ hP₃ => ?_⟩
  have hnP : ∀ b o, h₀.get? b = some o → b ≠ P := fun b o e q => by rw [q, hPn.2.2] at e; cases e
  have F₃ : Fr h₀ L h₃ m := ⟨F₂.ns.extBut hx₃ (Ne.symm hPn.2.1), fun b o e => hx₃ b o (hnP b o e) (F₂.keep b o e), F₂.above⟩
  have hsz₃ : s₁.heap.objs.size + 1 ≤ h₃.objs.size := by rw [← hsz₂]; exact hge₃
  have keep₃ : ∀ b o, b ≠ P → s₁.heap.get? b = some o → h₃.get? b = some o := fun b o hb e => hx₃ b o hb (keep₂ b o e)
  have N₃ : News h₀ L h₃ (news.set i (P, tabObj ps')) := fun q hq => by
    rcases mem_set_erase hq with rfl | hq
    · exact ⟨hP₃, hPn.2.1, hPn.2.2⟩
    · exact ⟨keep₃ _ _ (hdis q hq) (N q (mem_of_erase hq)).1, (N q (mem_of_erase hq)).2⟩
  obtain ⟨bm, ob, b1, b2, b3, b4, b5, b6⟩ := T.bmain
  refine wpAny_builtinsFor (T.g.keeps F₃.keep) b1 b2 (F₃.keep _ _ b3) b4 b5 b6 ?_
  have hlim₃ : h₃.NoLimit := T.nolimit.keeps F₃.keep
  have hcw : cStatics ∉ [s₁.heap.objs.size] := fun hm => by
    have e : cStatics = s₁.heap.objs.size := by simpa using hm
    have hb : bm < s₁.heap.objs.size := Heap.lt_size (F.keep _ _ b3)
    rw [← e] at hLlt
    have hL : L ≤ 1 := Nat.le_of_lt_succ hLlt
    have : bm < 1 := Nat.lt_of_lt_of_le (Heap.lt_size b3) (Nat.le_trans F.above hL)
    exact b2 (Nat.lt_one_iff.mp this)
  have hcyP : cy ≠ P := fun q => by
    have e := (N _ hmy).1
    rw [show (cy, oy).1 = P from q, hPn.1] at e
    cases e
    cases hdy
  refine ⟨s₁.heap.objs.size, [s₁.heap.objs.size], [s₁.heap.objs.size], n, _, _, (fun _ => true), (fun j v => ∃ t, v = .int (a0 + (j : Nat) * c0 + dv) t), rfl,
    (fun A' hA => Walks.range hA _ a0 c0 n), hx₃ _ _ (fun e => by rw [← e] at hPlt; exact Nat.lt_irrefl _ hPlt) hI, (fun b hb => ?_), hlim₃, hcw, fun href hhref => ⟨?_, ?_⟩, fun a' h₅ tk gs hgb hag hsz₅ hk₅ W hat => ?_⟩
  · have e : b = s₁.heap.objs.size := by simpa using hb
    rw [e]; exact hsz₃
  · intro A' E' j v' s₂' m₂ hA _ _ hP hN hm hkp
    exact wpAny_pure ⟨rfl, s₂'.heap, s₂'.toks, rfl, fun _ _ e => e⟩
  · intro A' E' j v' s₂' m₂ hA _ _ hP _ hN hm hkp
    obtain ⟨tj, rfl⟩ := hP
    have hc3 : h₃.get? cy = some oy := keep₃ _ _ hcyP (N _ hmy).1
    have hcell2 : s₂'.heap.get? cy = some oy := hkp cy (List.mem_range.mpr (Heap.lt_size hc3)) (fun hq => by
      have e : cy = s₁.heap.objs.size := by simpa using hq
      exact Nat.lt_irrefl _ (e ▸ hcylt)) oy (hhref _ _ hc3)
    refine wpAny_BinOp (wpAny_Name (wpAny_loadName_local hkind hx hN hm ?_) hxd)
    refine wpAny_Name (wpAny_loadName_free hkind hy (hcl _ hcy) ⟨oy, hcell2, hdy⟩ ?_ hyc) hyd
    exact add_int ⟨⟨_, rfl⟩, s₂'.heap, s₂'.toks + 1, rfl, fun _ _ e => e⟩
  · have hlen : passing (fun _ => true) n 0 = List.range n := by simp [passing]
    have keep₅ : ∀ b o, b ≠ P → s₁.heap.get? b = some o → h₅.get? b = some o := fun b o hb e => hk₅ _ _ (keep₃ b o hb e)
    have N₅ : News h₀ L h₅ (news.set i (P, tabObj ps')) := fun q hq => ⟨hk₅ _ _ (N₃ q hq).1, (N₃ q hq).2⟩
    refine hQ (s₁.heap.objs.size - 1) a' ps' h₅ (s₁.gens.push gs) tk (Nat.le_sub_one_of_lt hLlt) (fun q hq => ?_) htr' (F₃.keeps hk₅) N₅ (G.push hgb) ?_
    · have hlt : q.1 < s₁.heap.objs.size := by
        rcases mem_set_erase hq with rfl | hq
        · exact hPlt
        · exact Heap.lt_size (N q (mem_of_erase hq)).1
      exact Nat.le_sub_one_of_lt hlt
    · rw [hlen, List.length_range] at W
      have hv : ∀ j v, (∃ k, (passing (fun _ => true) n 0)[j]? = some k ∧ ∃ t, v = Value.int (a0 + (k : Nat) * c0 + dv) t) → ∃ t, v = Value.int (a0 + (j : Nat) * c0 + dv) t := fun j v hv => by
        obtain ⟨k, hk, t', rfl⟩ := hv
        have hj : j < (passing (fun _ => true) n 0).length := (List.getElem?_eq_some_iff.mp hk).1
        rw [hlen, List.length_range] at hj
        have e : k = j := by
          rw [hlen, List.getElem?_eq_getElem (by simpa using hj)] at hk
          simpa using (Option.some.inj hk).symm
        rw [e]; exact ⟨t', rfl⟩
      refine ⟨_, _, _, _, (⟨W.sub, W.grefl, W.gtrans, W.frame, fun j s' Q E hj st hQ => W.item j s' Q E hj st fun v s'' hP => hQ v s'' (hv j v (by rw [hlen]; exact hP)), W.done, W.self⟩ : WalksS prog w A.in4 a' _ _ _ n (fun j v => ∃ t, v = .int (a0 + (j : Nat) * c0 + dv) t) _), hat, fun i s' st => st.1.typeIs, List.mem_cons_self, ?_, ?_⟩
      · intro b hb
        show b < h₅.objs.size
        rw [hsz₅]
        rcases List.mem_cons.mp hb with rfl | hb
        · exact Nat.lt_succ_self _
        · rcases List.mem_cons.mp hb with rfl | hb
          · exact Nat.lt_succ_of_lt hag
          · exact Nat.lt_succ_of_lt (Nat.lt_trans (List.mem_range.mp hb) hag)
      · intro b hb
        rcases List.mem_cons.mp hb with rfl | hb
        · exact Nat.lt_of_le_of_lt (Nat.sub_le _ _) hsz₃
        · have e : b = s₁.heap.objs.size := by simpa using hb
          rw [e]; exact Nat.sub_lt (Nat.lt_of_le_of_lt (Nat.zero_le _) hLlt) Nat.one_pos
theorem gen_E {env : Env} {iter : Expr} {x y : Str} {px p1 p2 p3 : Pos} {scope : Scope} {cl' : List (Str × Addr)} {pos : Pos} {Q : Value → Shared → Prop} (he : env = envX cn cs L a (.ref c) cl) (_F : Fr h₀ L s.heap m) (T : Top p loose mean mg mb h₀)
    (hh : A.handled = none) (hco : scope.isCoroutine = false) (hclos : closureFor scope env = pure cl') (hcell : ∀ y ∈ scope.names, y.2 ≠ .cell) (h0 : scope.names.lookup (".0" : Str) = some NameKind.local)
    (hx : scope.names.lookup x = some .local) (hkind : scope.kind = .function) (hroom : A.depth < recursionLimit) (hy : scope.names.lookup y = some .free) (hxd : (x == ("__debug__" : Str)) = false) (hyd : (y == ("__debug__" : Str)) = false) (hyc : (y == ("__classdict__" : Str)) = false)
    (hcl : ∀ cy, cl.lookup y = some cy → cl'.lookup y = some cy)
    (h : wpAny (model prog w) A (eval iter env) (GenNext prog w A h₀ L m c cl y Q) E s)
    (hs : ∀ x, genFold iter env x = pure x) :
    wpAny (model prog w) A (eval (.GeneratorExp (.BinOp (.Name x p1) .Add (.Name y p2) p3) [⟨.Name x px, iter, [], 0⟩] scope pos) env) Q E s := by
  subst he
  exact gen_K T hh hco hclos hcell h0 hx hkind hroom hy hxd hyd hyc hcl h hs
end
/-! part S4 -/
theorem offS4 : True := by
  w_top off
  trivial
set_option maxRecDepth 100000
theorem setWalk_eq (a : Addr) : setWalk a = (setState a >>= fun x => setsByText >>= fun b => if b then (ask >>= fun st => pure (pickOrder (st.params.setOrder a x.2.1) x.1)) else if (!x.2.2.plain && decide (x.1.size > 1)) then (drawOrder x.1.size x.1.toList >>= fun l => pure l.toArray) else ((if (!x.2.2.led && decide (x.1.size > 1)) = true then unsupported "set:maker-not-led" else pure ()) >>= fun _ => pure x.1)) := by
  rfl
def popJp (a : Addr) (es : Array (Int × Value)) (t : SetTable) (i : Nat) : Sem (Option Value) :=
  match es[i]? with
  | some (_, x) => storeSet a (SetTable.eraseAt es i) (t.popped i) >>= fun _ => pure (some x)
  | _ => unsupported "internal:set.pop"
theorem setPop_eq (a : Addr) : setPop a = (setState a >>= fun x => match x.2.2.popPlace with
    | some byFinger => setsByText >>= fun b => if (b || (!x.2.2.plain && decide (x.1.size > 1))) = true then choose .order x.1.size >>= popJp a x.1 x.2.2 else ((if (!x.2.2.led && decide (x.1.size > 1)) = true then unsupported "set:maker-not-led" else pure ()) >>= fun _ => pure byFinger >>= popJp a x.1 x.2.2)
    | _ => pure none) := by
  rfl
theorem perm_erase {α : Type} {l : List α} {i : Nat} (h : i < l.length) : l.Perm (l[i] :: l.eraseIdx i) := by
  induction l generalizing i with
  | nil => simp at h
  | cons y l ih =>
    cases i with
    | zero => simp
    | succ i => exact ((ih (by simpa using h)).cons y).trans (List.Perm.swap ..)
theorem pick_perm {α : Type} (next : Nat → Nat) : ∀ (fuel k : Nat) (l : List α) (out : Array α), l.length ≤ fuel → (pickOrder.go next fuel k l out).toList.Perm (out.toList ++ l)
  | 0, k, l, out, h => by
    have : l = [] := List.length_eq_zero_iff.mp (Nat.le_zero.mp h)
    subst this; simp [pickOrder.go]
  | fuel + 1, k, l, out, h => by
    unfold pickOrder.go
    cases hq : l[next k % l.length]? with
    | none =>
      have hl : l = [] := by
        by_cases hz : l.length = 0
        · exact List.length_eq_zero_iff.mp hz
        · have := List.getElem?_eq_none_iff.mp hq
          have := Nat.mod_lt (next k) (Nat.pos_of_ne_zero hz)
          omega
      subst hl; simp
    | some x =>
      dsimp only
      obtain ⟨hlt, hx⟩ := List.getElem?_eq_some_iff.mp hq
      refine (pick_perm next fuel (k + 1) _ _ (by rw [List.length_eraseIdx_of_lt hlt]; omega)).trans ?_
      have hp : l.Perm (x :: l.eraseIdx (next k % l.length)) := by rw [← hx]; exact perm_erase hlt
      rw [Array.toList_push, List.append_assoc]
      exact List.Perm.append_left _ hp.symm
section
variable {M : Model} {A : Around} {E : Value → Shared → Prop} {s : Shared}
theorem wpAny_choose {src : Source} {n : Nat} {Q : Nat → Shared → Prop} (hn : n ≠ 0) (h : ∀ i d, i < n → Q i { s with drawn := d }) : wpAny M A (choose src n) Q E s :=
  fun _ _ _ => ⟨hn, h _ _ (Nat.mod_lt _ (Nat.pos_of_ne_zero hn))⟩
theorem draw_perm {α : Type} : ∀ (n : Nat) (l : List α) (s : Shared) (Q : List α → Shared → Prop), l.length ≤ n → (∀ l' d, l'.Perm l → Q l' { s with drawn := d }) → wpAny M A (drawOrder n l) Q E s
  | 0, l, s, Q, h, hQ => by
    have : l = [] := List.length_eq_zero_iff.mp (Nat.le_zero.mp h)
    subst this
    exact wpAny_pure (hQ [] s.drawn (.refl _))
  | n + 1, [], s, Q, _, hQ => wpAny_pure (hQ [] s.drawn (.refl _))
  | n + 1, y :: l, s, Q, h, hQ => by
    unfold drawOrder
    refine wpAny_bind (wpAny_choose (by simp) fun i d hi => ?_)
    have hlt : i < (y :: l).length := hi
    rw [List.getElem?_eq_getElem hlt]
    refine wpAny_bind (draw_perm n _ _ _ (by rw [List.length_eraseIdx_of_lt hlt]; simp at h ⊢; omega) fun l' d' hl' => wpAny_pure (hQ _ d' ?_))
    exact (hl'.cons _).trans (perm_erase hlt).symm
end
/-! part S5 -/
theorem offS5 : True := by
  w_top off
  trivial
set_option maxRecDepth 100000
theorem entry_set_inter : entryFor table "set.intersection" = some Builtin.«frozenset.intersection» :=
  entryFor_alias (id' := "frozenset.intersection") (by kernel_rfl) rfl (by decide +kernel) (by kernel_rfl)
section
variable {prog : Program} {w : World} {A : Around} {E : Value → Shared → Prop} {s : Shared}
theorem popPlace_one {t : SetTable} (hf : t.fits 1 = true) : t.popPlace = some 0 := by
  have h1 : t.place.size = 1 := by
    simp only [SetTable.fits, Bool.and_eq_true, beq_iff_eq] at hf
    exact hf.1
  unfold SetTable.popPlace
  have he : t.place.isEmpty = false := by
    rw [Array.isEmpty, h1]; rfl
  rw [he]
  simp only [Bool.false_eq_true, if_false, h1]
  split
  · congr 1; omega
  · rfl
theorem popPlace_zero {t : SetTable} (hf : t.fits 0 = true) : t.popPlace = none := by
  have h1 : t.place.size = 0 := by
    simp only [SetTable.fits, Bool.and_eq_true, beq_iff_eq] at hf
    exact hf.1
  unfold SetTable.popPlace
  have he : t.place.isEmpty = true := by
    rw [Array.isEmpty, h1]; rfl
  rw [he]; rfl
theorem wpAny_setPop_none {S : Int → Bool} {a : Addr} {Q : Option Value → Shared → Prop} (hS : s.heap.SetOf (intKind prog w) a S 0) (h : Q none s) :
    wpAny (model prog w) A (setPop a) Q E s := by
  obtain ⟨o, es, ep, t, ho, _, hd, hel, hmem, hb, hf, hn⟩ := hS
  rw [setPop_eq]
  refine wpAny_bind (wpAny_setState_of ho hd hf ?_)
  rw [hn] at hf
  rw [show (es, ep, t).2.2.popPlace = none from popPlace_zero hf]
  exact wpAny_pure h
theorem wpAny_setPop_one {S : Int → Bool} {k : Int} {a : Addr} {Q : Option Value → Shared → Prop} (hS : s.heap.SetOf (intKind prog w) a S 1) (hk : S k = true)
    (h : ∀ t' h' d, Heap.SameBut a s.heap h' → Q (some (.int k t')) { s with heap := h', drawn := d }) :
    wpAny (model prog w) A (setPop a) Q E s := by
  obtain ⟨o, es, ep, t, ho, _, hd, hel, hmem, hb, hf, hn⟩ := hS
  have hjp : ∀ d, wpAny (model prog w) A (popJp a es t 0) Q E { s with drawn := d } := fun d => by
    unfold popJp
    have h0 : 0 < es.size := by omega
    rw [Array.getElem?_eq_getElem h0]
    obtain ⟨e, he, hke⟩ := (hmem k).mp hk
    have e0 : es[0] = e := by
      obtain ⟨i, hi, hie⟩ := List.mem_iff_getElem.mp he
      have hz : i = 0 := by simp at hi; omega
      subst hz
      rw [← hie]; simp
    rw [e0]
    obtain ⟨hh, x⟩ := e
    obtain ⟨t', rfl⟩ : ∃ t', x = .int k t' := Value.isInt_shape hke
    dsimp only
    refine wpAny_bind (wpAny_storeSet_of (s := { s with drawn := d }) ho hd ?_ ?_)
    · exact wpAny_pure (h t' _ d (Heap.SameBut.update ..))
    · have : (SetTable.eraseAt es 0).size ≤ es.size := by
        unfold SetTable.eraseAt; simp
      rw [sizeLine_eq]
      omega
  rw [setPop_eq]
  refine wpAny_bind (wpAny_setState_of ho hd hf ?_)
  have hf1 := hf
  rw [hn] at hf1
  rw [show (es, ep, t).2.2.popPlace = some 0 from popPlace_one hf1]
  dsimp only
  unfold setsByText
  refine wpAny_bind (wpAny_bind (wpAny_askSetting (wpAny_pure ?_)))
  have hz : decide (es.size > 1) = false := by rw [hn]; rfl
  simp only [hz, Bool.and_false, Bool.or_false, Bool.false_eq_true, if_false]
  split
  · refine wpAny_bind (wpAny_choose (by omega) fun i d hi => ?_)
    have : i = 0 := by omega
    subst this
    exact hjp d
  · refine wpAny_bind (wpAny_pure (wpAny_bind (wpAny_pure ?_)))
    exact hjp s.drawn
end
/-! part S6 -/
theorem offS6 : True := by
  w_top off
  trivial
set_option maxRecDepth 100000
section
variable {prog : Program} {w : World} {A : Around} {E : Value → Shared → Prop} {s : Shared} {h₀ : Heap} {L D : Addr} {m : Str → Option Value} {rest : List (Addr × Obj)} {o : Obj} {S : Int → Bool} {Q : Value → Shared → Prop}
theorem pop_one_K {k : Int} (FF : Fr h₀ L s.heap m) (N : News h₀ L s.heap ((D, o) :: rest)) (hl : ∀ q ∈ rest, q.1 < D) (hs : o.IntSetOf S 1) (hk : S k = true)
    (h : ∀ t' h' d, Fr h₀ L h' m → News h₀ L h' rest → Q (.int k t') { s with heap := h', drawn := d }) :
    wpAny (model prog w) A (call (.builtin "set.pop") [.ref D]) Q E s := by
  have hD := N _ (.head _)
  have hS : s.heap.SetOf (intKind prog w) D S 1 := (hs.kind prog w).setOf hD.1 (by decide)
  refine wpAny_call_entry F.slot_set_pop hS.typeIs F.entry_set_pop ?_ (F.args_set_pop_1 _)
  unfold Builtin.«set.pop» Builtin.Frozenset.noArgs
  refine wpAny_bind (wpAny_pure ?_)
  refine wpAny_bind (wpAny_setPop_one hS hk fun t' h' d hsb => ?_)
  refine wpAny_pure ⟨_, rfl, h t' h' d ⟨FF.ns.sameBut hsb (Ne.symm hD.2.1), fun b ob e => (hsb.2 b (fun q => ?_)).trans (FF.keep b ob e), FF.above⟩ fun q hq => ?_⟩
  · rw [q, hD.2.2] at e; cases e
  · exact ⟨(hsb.2 q.1 (Nat.ne_of_lt (hl q hq))).trans (N q (.tail _ hq)).1, (N q (.tail _ hq)).2⟩
theorem pop_none_K (hA : A.handled = none) (N : News h₀ L s.heap ((D, o) :: rest)) (hs : o.IntSetOf S 0)
    (h : ∀ h' tk e, Heap.NewExc s.heap h' e "KeyError" → E (.ref e) { s with heap := h', toks := tk }) :
    wpAny (model prog w) A (call (.builtin "set.pop") [.ref D]) Q E s := by
  have hD := N _ (.head _)
  have hS : s.heap.SetOf (intKind prog w) D S 0 := (hs.kind prog w).setOf hD.1 (by decide)
  refine wpAny_call_entry F.slot_set_pop hS.typeIs F.entry_set_pop ?_ (F.args_set_pop_1 _)
  unfold Builtin.«set.pop» Builtin.Frozenset.noArgs
  refine wpAny_bind (wpAny_pure ?_)
  refine wpAny_bind (wpAny_setPop_none hS ?_)
  refine wpAny_bind (wpAny_rule ?_)
  exact wpAny_raiseErrorWords (A := A.in1) plainExc_KeyError hA h
theorem meth_pop_K {pl : Sem Bool} {Q : Value × List Value → Shared → Prop} {n : Nat} {news : List (Addr × Obj)} (N : News h₀ L s.heap news) (hm : (D, o) ∈ news) (hs : o.IntSetOf S n) (hb : n < scanBound) (h : Q (.builtin "set.pop", [.ref D]) s) :
    wpAny (model prog w) A (getMethod (.ref D) "pop" pl) Q E s := by
  have hS : s.heap.SetOf (intKind prog w) D S n := (hs.kind prog w).setOf (N _ hm).1 hb
  exact getMethod_builtin hS.typeIs F.plainAttrs_set F.slot_set_pop F.type_set_pop hS.noDict h
theorem meth_inter_K {pl : Sem Bool} {Q : Value × List Value → Shared → Prop} {n : Nat} {news : List (Addr × Obj)} (N : News h₀ L s.heap news) (hm : (D, o) ∈ news) (hs : o.IntSetOf S n) (hb : n < scanBound) (h : Q (.builtin "set.intersection", [.ref D]) s) :
    wpAny (model prog w) A (getMethod (.ref D) "intersection" pl) Q E s := by
  have hS : s.heap.SetOf (intKind prog w) D S n := (hs.kind prog w).setOf (N _ hm).1 hb
  exact getMethod_builtin hS.typeIs F.plainAttrs_set F.slot_set_intersection F.type_set_intersection hS.noDict h
end
/-! part S7 -/
theorem offS7 : True := by
  w_top off
  trivial
set_option maxRecDepth 100000
section
variable {prog : Program} {w : World} {A : Around} {E : Value → Shared → Prop} {s : Shared}
theorem forIn_still {M : Model} {α β : Type} {f : α → β → Sem (ForInStep β)} {b : β} : ∀ (l : List α) (s : Shared) (Q : β → Shared → Prop), (∀ a ∈ l, ∀ Q' : ForInStep β → Shared → Prop, Q' (.yield b) s → wpAny M A (f a b) Q' E s) → Q b s → wpAny M A (forIn l b f) Q E s
  | [], s, Q, _, hQ => by rw [List.forIn_nil]; exact wpAny_pure hQ
  | a :: l, s, Q, h, hQ => by
    rw [List.forIn_cons]
    exact wpAny_bind (h a (.head _) _ (forIn_still l s Q (fun a ha => h a (.tail _ ha)) hQ))
/-- the sets hold ints alone: nothing of theirs is seen -/
theorem setsQuiet_ok {Q : Bool → Shared → Prop} (l : List Addr) (hl : ∀ a ∈ l, ∃ S n, s.heap.SetOf (intKind prog w) a S n) (hQ : Q true s) : wpAny (model prog w) A (setsQuiet l) Q E s := by
  unfold setsQuiet
  refine wpAny_bind (forIn_still l s _ (fun a ha Q' hQ' => ?_) (wpAny_pure hQ))
  obtain ⟨S, n, o, es, ep, t, ho, _, hd, hel, _, _, hf, _⟩ := hl a ha
  refine wpAny_bind (wpAny_setEntries_of ho hd hf ?_)
  rw [← Array.forIn_toList]
  refine wpAny_bind (forIn_still es.toList s _ (fun e he Q'' hQ'' => ?_) (wpAny_pure hQ'))
  obtain ⟨⟨k, hk, _⟩, _⟩ := hel e he
  obtain ⟨h', x⟩ := e
  obtain ⟨t', rfl⟩ : ∃ t', x = .int k t' := Value.isInt_shape hk
  exact wpAny_pure hQ''
theorem SetOf.store {h : Heap} {a : Addr} {S : Int → Bool} {n : Nat} (x : h.SetOf (intKind prog w) a S n) {o : Obj} {es : Array (Int × Value)} {ep : Nat} {t : SetTable} (ho : h.get? a = some o) (hd : o.data = .set es ep t) (led plain : Bool) :
    (h.update a (Obj.putSet es { t with led := led, plain := plain })).SetOf (intKind prog w) a S n := by
  obtain ⟨o', es', ep', t', ho', hex, hd', hel, hmem, hb, hf, hn⟩ := x
  rw [ho] at ho'; cases ho'
  rw [hd] at hd'; cases hd'
  rw [← hn]
  exact (SetOf_store (t' := { t with led := led, plain := plain }) ho hex hd hel hmem hb hf).2
theorem walkUnseen_ok {a r : Addr} {others : List Addr} {Sr : Int → Bool} {nr : Nat} {o : Obj} {es : Array (Int × Value)} {ep : Nat} {t : SetTable} {Q : Array (Int × Value) → Shared → Prop}
    (ho : s.heap.get? a = some o) (hd : o.data = .set es ep t) (hf : t.fits es.size = true) (hl : ∀ b ∈ a :: others, ∃ S n, s.heap.SetOf (intKind prog w) b S n) (hr : s.heap.SetOf (intKind prog w) r Sr nr)
    (h : ∀ (l : Array (Int × Value)) h' d, l.toList.Perm es.toList → Heap.SameBut r s.heap h' → h'.SetOf (intKind prog w) r Sr nr → Q l { s with heap := h', drawn := d }) :
    wpAny (model prog w) A (setWalkUnseen a others (some r)) Q E s := by
  have same : ∀ (l : Array (Int × Value)) d, l.toList.Perm es.toList → Q l { s with drawn := d } := fun l d hl' => h l s.heap d hl' (Heap.SameBut.refl ..) hr
  have walk : (w.params.followText "set-order" || (t.led && t.plain) || decide (es.size ≤ 1)) = true → wpAny (model prog w) A (setWalk a) Q E s := by
    intro hc
    rw [setWalk_eq]
    refine wpAny_bind (wpAny_setState_of ho hd hf ?_)
    unfold setsByText
    refine wpAny_bind (wpAny_bind (wpAny_askSetting (wpAny_pure ?_)))
    dsimp only
    split
    · refine wpAny_bind (wpAny_askSetting (wpAny_pure ?_))
      refine same _ s.drawn ?_
      unfold pickOrder
      exact (pick_perm _ _ _ _ _ (by simp)).trans (by simp)
    · rename_i hbt
      split
      · refine wpAny_bind (draw_perm _ _ _ _ (by simp) fun l' d hl' => wpAny_pure (same _ d (by simpa using hl')))
      · rename_i hdr
        have hled : (!t.led && decide (es.size > 1)) = false := by
          simp only [Bool.or_eq_true, decide_eq_true_eq] at hc
          cases hq : t.led
          · simp only [hq, Bool.false_and, Bool.false_eq_true, or_false] at hc
            rcases hc with hc | hc
            · exact absurd hc hbt
            · simp; omega
          · rfl
        rw [hled]
        simp only [Bool.false_eq_true, if_false]
        exact wpAny_bind (wpAny_pure (wpAny_pure (same es s.drawn (.refl _))))
  unfold setWalkUnseen
  refine wpAny_bind (wpAny_setState_of ho hd hf ?_)
  dsimp only
  unfold setsByText
  refine wpAny_bind (wpAny_bind (wpAny_askSetting (wpAny_pure ?_)))
  split
  · exact walk (by assumption)
  · refine wpAny_bind (setsQuiet_ok _ hl ?_)
    simp only [Bool.not_true, Bool.false_eq_true, if_false]
    refine wpAny_bind (wpAny_rule ?_)
    obtain ⟨o', es', ep', t', ho', hex, hd', hel, hmem, hb, hf', hn⟩ := id hr
    refine wpAny_bind (wpAny_setState_of ho' hd' hf' ?_)
    dsimp only
    split
    · refine wpAny_bind (wpAny_storeSet_of ho' hd' ?_ (fits_of_scanBound hb))
      exact wpAny_pure (h es _ s.drawn (.refl _) (Heap.SameBut.update ..) (SetOf.store hr ho' hd' _ _))
    · exact wpAny_pure (same es s.drawn (.refl _))
end
/-! part S8 -/
theorem offS8 : True := by
  w_top off
  trivial
set_option maxRecDepth 100000
section
variable {prog : Program} {w : World} {A : Around} {E : Value → Shared → Prop} {s : Shared}
theorem any_iff (σ : List Int) (k : Int) : σ.any (· == k) = true ↔ k ∈ σ := by
  rw [List.any_eq_true]
  exact ⟨fun ⟨x, hx, e⟩ => (beq_iff_eq.mp e) ▸ hx, fun h => ⟨k, h, beq_self_eq_true k⟩⟩
def interBody (id : String) (r asked walked : Addr) (ep : Nat) (x : Int × Value) : Sem (ForInStep PUnit) := do
  holding [x.2] do
    let f ← setFind asked x.2 x.1
    if f.isSome = true then do
      let _ ← setAddHashed r x.2 x.1
      pure PUnit.unit
    else pure PUnit.unit
  Builtin.Frozenset.unchanged id walked ep
  pure (ForInStep.yield PUnit.unit)
theorem interBody_eq (id : String) (r asked walked : Addr) (ep : Nat) (h : Int) (x : Value) : interBody id r asked walked ep (h, x) = (do
  holding [x] do
    let f ← setFind asked x h
    if f.isSome = true then do
      let _ ← setAddHashed r x h
      pure PUnit.unit
    else pure PUnit.unit
  Builtin.Frozenset.unchanged id walked ep
  pure (ForInStep.yield PUnit.unit)) := rfl
theorem inter_loop {r asked walked : Addr} {Sa : Int → Bool} {na : Nat} {ow : Obj} {ew : Array (Int × Value)} {ep : Nat} {tw : SetTable} {id : String} (hra : asked ≠ r) (hrw : walked ≠ r) (hd : ow.data = .set ew ep tw) (hf : tw.fits ew.size = true) :
    ∀ (l : List (Int × Value)) (σ : List Int) (s : Shared) (Q : PUnit → Shared → Prop), ElemsOf (intKind prog w) l → s.heap.SetOf (intKind prog w) r (fun k => σ.any (· == k)) σ.length → σ.Nodup →
      s.heap.SetOf (intKind prog w) asked Sa na → s.heap.get? walked = some ow → σ.length + l.length < scanBound →
      (∀ h' (σ' : List Int), Heap.SameBut r s.heap h' → h'.SetOf (intKind prog w) r (fun k => σ'.any (· == k)) σ'.length → σ'.Nodup → (∀ k, k ∈ σ' ↔ k ∈ σ ∨ ((∃ e ∈ l, (intKind prog w).is k e.2 = true) ∧ Sa k = true)) → Q ⟨⟩ { s with heap := h' }) →
      wpAny (model prog w) A (forIn l PUnit.unit fun (x : Int × Value) (_ : PUnit) => interBody id r asked walked ep x) Q E s := by
  intro l
  induction l with
  | nil =>
    intro σ s Q _ hS hnd _ _ _ hQ
    rw [List.forIn_nil]
    exact wpAny_pure (hQ s.heap σ (Heap.SameBut.refl ..) hS hnd fun k => by simp)
  | cons hx l ih =>
    obtain ⟨hh, x⟩ := hx
    intro σ s Q hel hS hnd ha hw hroom hQ
    rw [List.forIn_cons]
    have hr1 : σ.length + 1 < scanBound := Nat.lt_of_le_of_lt (by simp) hroom
    obtain ⟨⟨k, hk, hhk⟩, hsc⟩ := hel.head
    have hk' : (intKind prog w).is k x = true := hk
    have hhk' : hh = (intKind prog w).hash k := hhk
    subst hhk'
    have hroom' : σ.length + (l.length + 1) < scanBound := hroom
    have fin : ∀ (h₁ : Heap) (σ₁ : List Int) (Q' : ForInStep PUnit → Shared → Prop), Heap.SameBut r s.heap h₁ → h₁.SetOf (intKind prog w) r (fun k => σ₁.any (· == k)) σ₁.length → σ₁.Nodup → σ₁.length ≤ σ.length + 1 → (∀ k₁, k₁ ∈ σ₁ ↔ k₁ ∈ σ ∨ (k₁ = k ∧ Sa k = true)) →
        (wpAny (model prog w) A (forIn l PUnit.unit fun (x : Int × Value) (_ : PUnit) => interBody id r asked walked ep x) Q E { s with heap := h₁ } → Q' (.yield PUnit.unit) { s with heap := h₁ }) →
        wpAny (model prog w) A (do Builtin.Frozenset.unchanged id walked ep; pure (ForInStep.yield PUnit.unit)) Q' E { s with heap := h₁ } := by
      intro h₁ σ₁ Q' hsb hS₁ hnd₁ hlen hiff hQ'
      have hw₁ : h₁.get? walked = some ow := (hsb.2 walked hrw).trans hw
      unfold Builtin.Frozenset.unchanged
      refine wpAny_bind (wpAny_bind (wpAny_setEpoch_of (s := { s with heap := h₁ }) hw₁ hd hf ?_))
      simp only [bne_self_eq_false, Bool.false_eq_true, if_false]
      refine wpAny_pure (wpAny_pure (hQ' ?_))
      have ha₁ : h₁.SetOf (intKind prog w) asked Sa na := by
        obtain ⟨o, es, ep', t, ho, rst⟩ := ha
        exact ⟨o, es, ep', t, (hsb.2 asked hra).trans ho, rst⟩
      refine ih σ₁ { s with heap := h₁ } Q hel.tail hS₁ hnd₁ ha₁ hw₁ (by omega) fun h' σ' hsb' hS' hnd' hiff' => hQ h' σ' (hsb.trans hsb') hS' hnd' fun k₁ => ?_
      rw [hiff', hiff]
      constructor
      · rintro ((h | ⟨rfl, h⟩) | ⟨⟨e, he, hi⟩, h⟩)
        · exact .inl h
        · exact .inr ⟨⟨_, .head _, hk'⟩, h⟩
        · exact .inr ⟨⟨e, .tail _ he, hi⟩, h⟩
      · rintro (h | ⟨⟨e, he, hi⟩, h⟩)
        · exact .inl (.inl h)
        · rcases List.mem_cons.mp he with rfl | he
          · have : k₁ = k := (intKind prog w).inj _ _ _ hi hk'
            exact .inl (.inr ⟨this, this ▸ h⟩)
          · exact .inr ⟨⟨e, he, hi⟩, h⟩
    refine wpAny_bind ?_
    rw [interBody_eq]
    refine wpAny_bind (wpAny_holding ?_)
    refine wpAny_bind (wpAny_setFind_of (knd := intKind prog w) (k := k) hk' hsc ha fun f hfs => ?_)
    rw [hfs]
    rcases Bool.eq_false_or_eq_true (Sa k) with hsa | hsa
    rotate_left
    · rw [hsa]
      refine wpAny_pure ?_
      exact fin s.heap σ _ (Heap.SameBut.refl ..) hS hnd (Nat.le_succ _) (fun k₁ => by simp [hsa]) fun z => z
    · rw [hsa]
      refine wpAny_bind (wpAny_setAddHashed_of (knd := intKind prog w) (k := k) hk' hsc hS hr1 fun h' hsb hS' => wpAny_pure ?_)
      by_cases hm : k ∈ σ
      · have hany : σ.any (· == k) = true := (any_iff σ k).mpr hm
        refine fin h' σ _ hsb (SetOf_congr hS' (fun k' => ?_) (by rw [hany]; rfl)) hnd (Nat.le_succ _) (fun k₁ => ?_) fun z => z
        · by_cases e : k' = k
          · subst e; rw [hany]; rfl
          · simp [e]
        · rw [hsa]
          constructor
          · exact .inl
          · rintro (h | ⟨rfl, _⟩)
            · exact h
            · exact hm
      · have hany : σ.any (· == k) = false := Bool.eq_false_iff.mpr fun q => hm ((any_iff σ k).mp q)
        refine fin h' (σ ++ [k]) _ hsb (SetOf_congr hS' (fun k' => ?_) (by rw [hany]; simp)) ?_ (by simp) (fun k₁ => ?_) fun z => z
        · rw [List.any_append]
          congr 1
          by_cases e : k' = k
          · subst e; simp
          · have : (k == k') = false := by simpa using fun q : k = k' => e q.symm
            simp [e, this]
        · rw [List.nodup_append]
          refine ⟨hnd, by simp, ?_⟩
          intro a ha' b hb' e
          rw [List.mem_singleton] at hb'
          subst hb'; subst e
          exact hm ha'
        · rw [hsa]; simp
end
/-! part S9 -/
theorem offS9 : True := by
  w_top off
  trivial
set_option maxRecDepth 100000
section
variable {prog : Program} {w : World} {A : Around} {E : Value → Shared → Prop} {s : Shared} {h₀ : Heap} {L D1 D2 : Addr} {m : Str → Option Value} {news : List (Addr × Obj)} {o1 o2 : Obj} {S1 S2 : Int → Bool} {n1 n2 : Nat} {Q : Value → Shared → Prop}
theorem inter_K (FF : Fr h₀ L s.heap m) (N : News h₀ L s.heap news) (m1 : (D1, o1) ∈ news) (m2 : (D2, o2) ∈ news) (hne : D1 ≠ D2) (hs1 : o1.IntSetOf S1 n1) (hs2 : o2.IntSetOf S2 n2) (b1 : n1 + 1 < scanBound) (b2 : n2 + 1 < scanBound)
    (h : ∀ D o (σ : List Int) h' d, Fr h₀ L h' m → News h₀ L h' ((D, o) :: news) → o.IntSetOf (fun k => σ.any (· == k)) σ.length → σ.Nodup → (∀ k, k ∈ σ ↔ S1 k = true ∧ S2 k = true) → σ.length < scanBound → (∀ q ∈ news, q.1 < D) →
      Q (.ref D) { s with heap := h', drawn := d }) :
    wpAny (model prog w) A (call (.builtin "set.intersection") [.ref D1, .ref D2]) Q E s := by
  have hS1 : s.heap.SetOf (intKind prog w) D1 S1 n1 := (hs1.kind prog w).setOf (N _ m1).1 (Nat.lt_of_succ_lt b1)
  have hS2 : s.heap.SetOf (intKind prog w) D2 S2 n2 := (hs2.kind prog w).setOf (N _ m2).1 (Nat.lt_of_succ_lt b2)
  have hD1 : D1 < s.heap.objs.size := Heap.lt_size (N _ m1).1
  have hD2 : D2 < s.heap.objs.size := Heap.lt_size (N _ m2).1
  have hLlt : L < s.heap.objs.size := FF.ns.lt
  refine wpAny_call_entry F.slot_set_intersection hS1.typeIs entry_set_inter ?_ (F.args_set_intersection_2 _ _)
  unfold Builtin.«frozenset.intersection» Builtin.Frozenset.manyOthers
  refine wpAny_bind (wpAny_bind (wpAny_pure (wpAny_pure ?_)))
  simp only [List.isEmpty_cons, Bool.false_eq_true, if_false]
  rw [List.forIn_cons]
  refine wpAny_bind (wpAny_bind (wpAny_bind (wpAny_holding (wpAny_bind (wpAny_pure ?_)))))
  unfold Builtin.Frozenset.intersection
  rw [if_neg (by simpa using hne.symm)]
  unfold Builtin.Frozenset.baseOf
  refine wpAny_bind (wpAny_bind (wpAny_isInstance hS1.typeIs PySem.F.isi_self_set ?_))
  refine wpAny_pure ?_
  simp only [if_true]
  refine wpAny_bind (wpAny_newSet_of (knd := intKind prog w) fun led hfresh => ?_)
  refine wpAny_bind (wpAny_pure ?_)
  have keep₁ : ∀ b o, s.heap.get? b = some o → (s.heap.push { cls := .type "set", dict := none, data := .set #[] 0 (.fresh 0 0 led) }).get? b = some o := fun _ _ e => Heap.get?_push_of_some _ e
  generalize (s.heap.push { cls := .type "set", dict := none, data := .set #[] 0 (.fresh 0 0 led) }) = h₁ at hfresh keep₁ ⊢
  generalize hr : s.heap.objs.size = r at hfresh ⊢
  have hr1 : D1 ≠ r := by rw [← hr]; exact Nat.ne_of_lt hD1
  have hr2 : D2 ≠ r := by rw [← hr]; exact Nat.ne_of_lt hD2
  have lift : ∀ {a S n}, s.heap.SetOf (intKind prog w) a S n → h₁.SetOf (intKind prog w) a S n := fun ⟨o, es, ep, t, ho, rst⟩ => ⟨o, es, ep, t, keep₁ _ _ ho, rst⟩
  have hT2 : Shared.TypeIs { s with heap := h₁ } (.ref D2) "set" := (lift hS2).typeIs
  -- the walk, for both roles
  have core : ∀ (asked walked : Addr) (Sa Sw : Int → Bool) (na nw : Nat) (Q' : Unit → Shared → Prop), asked ≠ r → walked ≠ r → h₁.SetOf (intKind prog w) asked Sa na → h₁.SetOf (intKind prog w) walked Sw nw → nw + 1 < scanBound →
      (∀ h' (σ : List Int) d, Heap.SameBut r h₁ h' → h'.SetOf (intKind prog w) r (fun k => σ.any (· == k)) σ.length → σ.Nodup → (∀ k, k ∈ σ ↔ Sa k = true ∧ Sw k = true) → Q' () { s with heap := h', drawn := d }) →
      wpAny (model prog w) A.in1 (do
        let was ← setEpoch walked
        let l ← setWalkUnseen walked [asked, r] (some r)
        forIn l PUnit.unit fun x __s => interBody "frozenset.intersection" r asked walked was x
        pure ()) Q' E { s with heap := h₁ } := by
    intro asked walked Sa Sw na nw Q' hra hrw ha hw hb hQ'
    obtain ⟨ow, ew, ep, tw, how, hex, hdw, helw, hmemw, hbw, hfw, hnw⟩ := id hw
    refine wpAny_bind (wpAny_setEpoch_of (s := { s with heap := h₁ }) how hdw hfw ?_)
    refine wpAny_bind (walkUnseen_ok (s := { s with heap := h₁ }) how hdw hfw (fun b hb' => ?_) hfresh fun l h' d hl hsb hr' => ?_)
    · rcases List.mem_cons.mp hb' with rfl | hb'
      · exact ⟨_, _, hw⟩
      · rcases List.mem_cons.mp hb' with rfl | hb'
        · exact ⟨_, _, ha⟩
        · rcases List.mem_cons.mp hb' with rfl | hb'
          · exact ⟨_, _, hfresh⟩
          · cases hb'
    · rw [← Array.forIn_toList]
      have hasb : h'.SetOf (intKind prog w) asked Sa na := by
        obtain ⟨o, es, ep', t, ho, rst⟩ := ha
        exact ⟨o, es, ep', t, (hsb.2 asked hra).trans ho, rst⟩
      refine wpAny_bind (inter_loop (s := { s with heap := h', drawn := d }) hra hrw hdw hfw l.toList [] _ (helw.perm hl) (SetOf_congr hr' (fun k => rfl) rfl) (by simp) hasb ((hsb.2 walked hrw).trans how) ?_ fun h'' σ hsb' hσ hnd hiff => ?_)
      · rw [hl.length_eq]
        simp; omega
      · refine wpAny_pure (hQ' h'' σ d (hsb.trans hsb') hσ hnd fun k => ?_)
        rw [hiff, hmemw]
        constructor
        · rintro (h | ⟨⟨e, he, hi⟩, h⟩)
          · cases h
          · exact ⟨h, e, hl.mem_iff.mp he, hi⟩
        · rintro ⟨h, e, he, hi⟩
          exact .inr ⟨⟨e, hl.mem_iff.mpr he, hi⟩, h⟩
  have done : ∀ (σ : List Int) h' d, Heap.SameBut r h₁ h' → h'.SetOf (intKind prog w) r (fun k => σ.any (· == k)) σ.length → σ.Nodup → (∀ k, k ∈ σ ↔ S1 k = true ∧ S2 k = true) →
      Q (.ref r) { s with heap := h', drawn := d } := by
    intro σ h' d hsb hσ hnd hiff
    obtain ⟨o, ho, hso⟩ := hσ.objOf
    have keep : ∀ b o, s.heap.get? b = some o → h'.get? b = some o := fun b o e => (hsb.2 b (by rw [← hr]; exact Nat.ne_of_lt (Heap.lt_size e))).trans (keep₁ b o e)
    refine h r o σ h' d (FF.keeps keep) (fun q hq => ?_) hso.intSetOf hnd hiff (by obtain ⟨_, es, _, _, _, _, _, _, _, hb, _, hn⟩ := hσ; rw [← hn]; exact hb) (fun q hq => by rw [← hr]; exact Heap.lt_size (N q hq).1)
    rcases List.mem_cons.mp hq with rfl | hq
    · exact ⟨ho, by rw [← hr]; exact Nat.ne_of_gt hLlt, by rw [← hr]; exact Heap.get?_none_of_le (Nat.le_trans FF.above (Nat.le_of_lt hLlt))⟩
    · exact ⟨keep _ _ (N q hq).1, (N q hq).2⟩
  refine wpAny_bind (wpAny_holding ?_)
  unfold Builtin.Frozenset.isAnySet orM
  refine wpAny_bind (wpAny_bind (wpAny_isInstance (s := { s with heap := h₁ }) hT2 PySem.F.isi_self_set ?_))
  dsimp only [toBool]
  refine wpAny_pure ?_
  simp only [if_true]
  have size : ∀ {a : Addr} {S : Int → Bool} {n : Nat} {Q' : Nat → Shared → Prop}, h₁.SetOf (intKind prog w) a S n → Q' n { s with heap := h₁ } → wpAny (model prog w) A.in1 (Builtin.Frozenset.sizeOf a) Q' E { s with heap := h₁ } := by
    intro a S n Q' ⟨o, es, ep, t, ho, _, hd, _, _, _, hf, hn⟩ hQ'
    unfold Builtin.Frozenset.sizeOf
    exact wpAny_bind (wpAny_setEntries_of (s := { s with heap := h₁ }) ho hd hf (wpAny_pure (by rw [hn]; exact hQ')))
  refine wpAny_bind (wpAny_pure (wpAny_bind (size (lift hS2) (wpAny_bind (size (lift hS1) ?_)))))
  by_cases hc : n2 > n1
  · simp only [if_pos hc]
    refine wpAny_mono (core D2 D1 S2 S1 n2 n1 (fun _ s' => Q (.ref r) s') hr2 hr1 (lift hS2) (lift hS1) b1 fun h' σ d hsb hσ hnd hiff => done σ h' d hsb hσ hnd fun k => (hiff k).trans And.comm) (fun _ s' hq => ?_) fun _ _ e => e
    exact wpAny_pure (wpAny_pure (wpAny_pure (wpAny_pure ⟨_, rfl, hq⟩)))
  · simp only [if_neg hc]
    refine wpAny_mono (core D1 D2 S1 S2 n1 n2 (fun _ s' => Q (.ref r) s') hr1 hr2 (lift hS1) (lift hS2) b2 fun h' σ d hsb hσ hnd hiff => done σ h' d hsb hσ hnd hiff) (fun _ s' hq => ?_) fun _ _ e => e
    exact wpAny_pure (wpAny_pure (wpAny_pure (wpAny_pure ⟨_, rfl, hq⟩)))
end
/-! part C6 -/
theorem offC6 : True := by
  w_top off
  trivial
theorem met_iff (val : Nat → Int) (n : Nat) (k : Int) : (firstMet val n).any (· == k) = true ↔ ∃ j, j < n ∧ val j = k := by
  rw [firstMet_any, List.any_eq_true]
  constructor
  · rintro ⟨x, hx, e⟩
    obtain ⟨j, hj, rfl⟩ := List.mem_map.mp hx
    exact ⟨j, List.mem_range.mp hj, beq_iff_eq.mp e⟩
  · rintro ⟨j, hj, rfl⟩
    exact ⟨val j, List.mem_map.mpr ⟨j, List.mem_range.mpr hj, rfl⟩, beq_self_eq_true _⟩
theorem one_of {σ : List Int} (hn : σ.Nodup) {c : Int} (h : ∀ k, k ∈ σ ↔ k = c) : σ = [c] := by
  cases σ with
  | nil => exact absurd ((h c).mpr rfl) (by simp)
  | cons x l =>
    have hx := (h x).mp (.head _)
    subst hx
    cases l with
    | nil => rfl
    | cons y l =>
      have hy := (h y).mp (.tail _ (.head _))
      subst hy
      simp at hn
/-- the one common number of a day's and a name's rows -/
theorem tz_meet {σ : List Int} {d n : Int} (hd : 1 ≤ d ∧ d ≤ 13) (hn : 1 ≤ n ∧ n ≤ 20) (hnd : σ.Nodup)
    (h : ∀ k, k ∈ σ ↔ (firstMet (fun j : Nat => 0 + (j : Int) * 13 + d) 20).any (· == k) = true ∧ (firstMet (fun j : Nat => 0 + (j : Int) * 20 + n) 13).any (· == k) = true) :
    (∃ c, σ = [c] ∧ (1 ≤ c ∧ c ≤ 260 ∧ c % 13 = d % 13 ∧ c % 20 = n % 20)) ∨ (σ = [] ∧ False) := by
  refine .inl ?_
  have h' : ∀ k, k ∈ σ ↔ (∃ j : Nat, j < 20 ∧ 0 + (j : Int) * 13 + d = k) ∧ (∃ j : Nat, j < 13 ∧ 0 + (j : Int) * 20 + n = k) := fun k => by rw [h, met_iff, met_iff]
  let q := 17 * (n - d) / 20
  let a := 17 * (n - d) % 20
  have hq : 17 * (n - d) = 20 * q + a := by omega
  have ha : 0 ≤ a ∧ a < 20 := by omega
  have hb : 13 * a + d = 20 * (11 * (n - d) - 13 * q) + n := by omega
  have hc : 13 * a + d ∈ σ := (h' _).mpr ⟨⟨a.toNat, by omega, by omega⟩, ⟨(11 * (n - d) - 13 * q).toNat, by omega, by omega⟩⟩
  refine ⟨13 * a + d, one_of hnd fun k => ⟨fun hk => ?_, fun e => e ▸ hc⟩, by omega, by omega, by omega, by omega⟩
  obtain ⟨⟨i, hi, e1⟩, ⟨j, hj, e2⟩⟩ := (h' _).mp hk
  clear h h' hc hk
  omega
section
variable {prog : Program} {w : World} {A : Around} {E : Value → Shared → Prop} {s : Shared} {h₀ : Heap} {L D : Addr} {m : Str → Option Value} {rest : List (Addr × Obj)} {o : Obj} {σ : List Int} {Q : Value → Shared → Prop}
theorem pop_K {P : Int → Prop} {Z : Prop} (hA : A.handled = none) (FF : Fr h₀ L s.heap m) (N : News h₀ L s.heap ((D, o) :: rest)) (hl : ∀ q ∈ rest, q.1 < D) (hs : o.IntSetOf (fun k => σ.any (· == k)) σ.length) (hσ : (∃ c, σ = [c] ∧ P c) ∨ (σ = [] ∧ Z))
    (h1 : ∀ c t' h' d, P c → Fr h₀ L h' m → News h₀ L h' rest → Q (.int c t') { s with heap := h', drawn := d })
    (h0 : Z → ∀ h' tk e, Heap.NewExc s.heap h' e "KeyError" → E (.ref e) { s with heap := h', toks := tk }) :
    wpAny (model prog w) A (call (.builtin "set.pop") [.ref D]) Q E s := by
  rcases hσ with ⟨c, rfl, hP⟩ | ⟨rfl, hZ⟩
  · exact pop_one_K FF N hl hs (k := c) (by simp) fun t' h' d F' N' => h1 c t' h' d hP F' N'
  · exact pop_none_K hA N hs (h0 hZ)
theorem set_ledger {g h : Heap} {L' P : Addr} {i : Nat} {x : Obj} {news pre : List (Addr × Obj)} (N : News g L' h pre) (hx : (P, x) ∈ pre) (hp : ∀ q ∈ news.eraseIdx i, q ∈ pre) : News g L' h (news.set i (P, x)) :=
  fun q hq => (mem_set_erase hq).elim (fun e => e ▸ N _ hx) fun hq => N q (hp q hq)
theorem erase_ledger {g h : Heap} {L' P : Addr} {i : Nat} {x : Obj} {news : List (Addr × Obj)} (N : News g L' h news) (hi : news[i]? = some (P, x)) : News g L' h ((P, x) :: news.eraseIdx i) :=
  fun q hq => (List.mem_cons.mp hq).elim (fun e => e ▸ N _ (List.mem_of_getElem? hi)) fun hq => N q (mem_of_erase hq)
end
/-! part C7 -/
theorem offC7 : True := by
  w_top off
  trivial
local macro_rules | `(tactic| walk_at "eval GeneratorExp") => `(tactic| (k_here; k_dflt (refine' gen_E ?he ?F ?T ?hh ?hco ?hclos ?hcell ?h0 ?hx ?hkind ?hroom ?hy ?hxd ?hyd ?hyc ?hcl ?_ ?hs; (case he => exact rfl); (case F => k_asm); (case T => k_asm); (case hh => exact rfl); (case hco => exact rfl); (case hclos => exact rfl); (case hcell => decide); (case h0 => exact rfl); (case hx => exact rfl); (case hkind => exact rfl); (case hroom => ktr_room); (case hy => exact rfl); (case hxd => exact rfl); (case hyd => exact rfl); (case hyc => exact rfl); (case hcl => exact fun _ e => e); (case hs => intro _; exact rfl); k_whole)))
theorem GenNext.mk {prog : Program} {w : World} {A : Around} {h₀ : Heap} {L : Addr} {m : Str → Option Value} {c : Addr} {cl : List (Str × Addr)} {y : Str} {Q : Value → Shared → Prop} {s₁ : Shared}
    {r : Addr} {a0 b0 c0 : Int} {t u v : Tok} {n : Nat} {news : List (Addr × Obj)} {P : Addr} {ps : Array Value} {i : Nat} {cy : Addr} {oy : Obj} {dv : Int} {dt : Tok}
    (hr : IsRange s₁.heap r a0 b0 c0 t u v) (hsm : Builtin.Range.small a0 b0 c0 = true) (hn : Builtin.Range.rangeSize a0 b0 c0 = (n : Nat)) (C : CodeHd h₀ c P) (F : Fr h₀ L s₁.heap m) (N : News h₀ L s₁.heap news) (hi : news[i]? = some (P, tabObj ps)) (hdis : ∀ q ∈ news.eraseIdx i, q.1 ≠ P)
    (htr : TriplesOk ps.toList) (G : AllBare s₁.gens) (hcy : cl.lookup y = some cy) (hmy : (cy, oy) ∈ news) (hdy : oy.data = .cell (some (.int dv dt)))
    (h : ∀ K a ps' h₅ gs tk, L ≤ K → (∀ q ∈ news.set i (P, tabObj ps'), q.1 ≤ K) → TriplesOk ps'.toList → Fr h₀ L h₅ m → News h₀ L h₅ (news.set i (P, tabObj ps')) → AllBare gs →
      Gen prog w A K a n (fun j v => ∃ t, v = .int (a0 + (j : Nat) * c0 + dv) t) { s₁ with heap := h₅, gens := gs, toks := tk } → Q (.ref a) { s₁ with heap := h₅, gens := gs, toks := tk }) :
    GenNext prog w A h₀ L m c cl y Q (.ref r) s₁ :=
  ⟨r, a0, b0, c0, t, u, v, n, news, P, ps, i, cy, oy, dv, dt, rfl, hr, hsm, hn, F, N, hi, hdis, htr, C, G, hcy, hmy, hdy, h⟩
local macro_rules | `(tactic| walk_at "GenNext") => `(tactic| (k_here; k_dflt (refine' GenNext.mk ?hr ?hsm ?hn ?C ?F ?N ?hi ?hdis ?htr ?G ?hcy ?hmy ?hdy ?_; (case hr => assumption); (case hsm => decide); (case hn => first | (show Builtin.Range.rangeSize _ _ _ = ((20 : Nat) : Int); decide) | (show Builtin.Range.rangeSize _ _ _ = ((13 : Nat) : Int); decide) | (show Builtin.Range.rangeSize _ _ _ = ((52 : Nat) : Int); decide) | (show Builtin.Range.rangeSize _ _ _ = ((73 : Nat) : Int); decide)); (case C => assumption); (case F => k_asm); (case N => k_asm); (case hi => (first | exact (rfl : (_ : List (Addr × Obj))[0]? = _) | exact (rfl : (_ : List (Addr × Obj))[1]? = _) | exact (rfl : (_ : List (Addr × Obj))[2]? = _) | exact (rfl : (_ : List (Addr × Obj))[3]? = _) | exact (rfl : (_ : List (Addr × Obj))[4]? = _) | exact (rfl : (_ : List (Addr × Obj))[5]? = _) | exact (rfl : (_ : List (Addr × Obj))[6]? = _) | exact (rfl : (_ : List (Addr × Obj))[7]? = _))); (case hdis => (((try simp only [List.eraseIdx_cons_zero, List.eraseIdx_cons_succ]); repeat' (first | (with_reducible assumption) | (refine List.forall_mem_cons.mpr ⟨?_, ?_⟩) | (intro q hq; cases hq; done) | (show @Ne Nat _ _; (try dsimp only); omega))))); (case htr => assumption); (case G => assumption); (case hcy => exact rfl); (case hmy => k_mem); (case hdy => assumption); k_whole); intro K' a' ps' h' gs' tk' hLK' hK' htr' F' N' G' X'; (try simp only [List.set_cons_zero, List.set_cons_succ] at N' hK')))
theorem len_room (val : Nat → Int) (n : Nat) (h : n + 1 < scanBound) : (firstMet val n).length + 1 < scanBound := Nat.lt_of_le_of_lt (Nat.succ_le_succ (firstMet_length_le val n)) h
theorem len_room' (val : Nat → Int) (n : Nat) (h : n + 1 < scanBound) : (firstMet val n).length < scanBound := Nat.lt_of_succ_lt (len_room val n h)
local macro_rules | `(tactic| walk_at "call type:set") => `(tactic| (k_here; (with_reducible show wpAny _ _ (call (Value.type "set") [Value.ref _]) _ _ _); k_dflt (refine' set_gen_K ?F ?N ?G ?X ?hLK ?hK ?hval ?hb ?_; (case X => assumption); (case F => k_asm); (case N => k_asm); (case G => assumption); (case hLK => assumption); (case hK => assumption); (case hval => exact fun j v h => h); (case hb => decide); k_whole); intro D' o' h' gs' tk' F' N' G' S' l1; (try k_lt l1)))
local macro_rules | `(tactic| walk_at "getMethod ref") => `(tactic| (k_here; (with_reducible show wpAny _ _ (getMethod (Value.ref _) ("intersection" : Str) _) _ _ _); k_dflt (refine' meth_inter_K ?N ?hm ?hs ?hb ?_; (case N => k_asm); (case hm => k_mem); (case hs => with_reducible assumption); (case hb => exact len_room' _ _ (by decide)); k_whole)))
local macro_rules | `(tactic| walk_at "getMethod ref") => `(tactic| (k_here; (with_reducible show wpAny _ _ (getMethod (Value.ref _) ("pop" : Str) _) _ _ _); k_dflt (refine' meth_pop_K ?N ?hm ?hs ?hb ?_; (case N => k_asm); (case hm => k_mem); (case hs => with_reducible assumption); (case hb => with_reducible assumption); k_whole)))
local macro_rules | `(tactic| walk_at "call builtin:set.intersection") => `(tactic| (k_here; (with_reducible show wpAny _ _ (call _ [Value.ref _, Value.ref _]) _ _ _); k_dflt (refine' inter_K ?F ?N ?m1 ?m2 ?hne ?s1 ?s2 ?b1 ?b2 ?_; (case F => k_asm); (case N => k_asm); (case m1 => k_mem); (case m2 => k_mem); (case hne => ((show @Ne Nat _ _; omega))); (case s1 => with_reducible assumption); (case s2 => with_reducible assumption); (case b1 => exact len_room _ _ (by decide)); (case b2 => exact len_room _ _ (by decide)); k_whole); intro D' o' σ' h' d' F' N' S' hnd' hiff' hb' hl'; (have l1 := hl'); (try k_lt l1)))
local macro_rules | `(tactic| walk_at "exec Try") => `(tactic| (k_here; (with_reducible show wpAny _ _ (exec (Stmt.Try _ (_ :: _) _ [] _) (envOfC _ _ _ _ _)) _ _ _); refine wpAny_Try_except ?_))
local macro_rules | `(tactic| k_all) => `(tactic| assumption)
local macro_rules | `(tactic| walk_at "call builtin:set.pop") => `(tactic| (k_here; (with_reducible show wpAny _ _ (call _ [Value.ref _]) _ _ _); k_dflt (refine' pop_K ?hA ?F ?N ?hl ?hs ?hσ ?_ ?_; (case hA => exact rfl); (case F => k_asm); (case N => k_asm); (case hl => assumption); (case hs => with_reducible assumption); (case hσ => (refine tz_meet ?_ ?_ (by assumption) (by assumption) <;> omega)); k_whole); first | (intro hz; exact hz.elim) | intro c' t' h' d' hc' F' N'))
theorem mem_erase_of {α : Type} {l : List α} {i : Nat} {x q : α} (hi : l[i]? = some x) (h : q ∈ l) : q ∈ x :: l.eraseIdx i := by
  induction l generalizing i with
  | nil => cases h
  | cons y l ih =>
    cases i with
    | zero =>
      have e : y = x := by simpa using hi
      subst e; exact h
    | succ i =>
      rcases List.mem_cons.mp h with rfl | h
      · exact .tail _ (.head _)
      · rcases List.mem_cons.mp (ih (by simpa using hi) h) with e | h
        · exact e ▸ .head _
        · exact .tail _ (.tail _ h)
theorem set_sub {α : Type} {l pre : List α} {i : Nat} {x : α} (hx : x ∈ pre) (hp : ∀ q ∈ l.eraseIdx i, q ∈ pre) : ∀ q ∈ l.set i x, q ∈ pre :=
  fun q hq => (mem_set_erase hq).elim (fun e => e ▸ hx) (hp q)
section
variable {w : World} {dp un : Nat} {gd : Option (List Code)} {cn : Str} {cs : Scope} {a : Addr} {ccd : Value} {cl : List (Str × Addr)} {outer : List Env} {A₀ : Around} {base h₀ : Heap} {L : Addr} {m mg mb : Str → Option Value} {mean : ExcName → Option Value} {s : Shared} {Q E : Value → Shared → Prop} {news : List (Addr × Obj)}
set_option maxRecDepth 100000 in
set_option maxHeartbeats 1000000 in
theorem tz_c (C : Cx w A₀ base h₀ outer L m mg mb mean s news cs dp un 4) {day ni : Int} {nm : Str} {t1 t2 : Tok} {ps : Array Value} {i : Nat} (hi : news[i]? = some (109, tabObj ps)) (hdis : ∀ q ∈ news.eraseIdx i, q.1 ≠ 109) (htr : TriplesOk ps.toList) (G : AllBare s.gens)
    (hm : (0 ≤ ni ∧ ni < 20 ∧ nm = nameAt ni) ∨ (ni = -1 ∧ nm = "Nobody"))
    (ret : ∀ c tk h' gs d tk' ps', 1 ≤ day ∧ day ≤ 13 → 0 ≤ ni → 1 ≤ c ∧ c ≤ 260 ∧ c % 13 = day % 13 ∧ c % 20 = (ni + 1) % 20 → TriplesOk ps'.toList → AllBare gs → Fr h₀ L h' m → News h₀ L h' (news.set i (109, tabObj ps')) →
      Q (.int c tk) { s with heap := h', gens := gs, drawn := d, toks := tk' })
    (rI : ∀ g e h' tk', ¬ (1 ≤ day ∧ day ≤ 13) → Fr h₀ L g m → Rz base g (envX cn cs L a ccd cl :: outer) e "IndexError" news h' → E (.ref e) { s with heap := h', toks := tk' })
    (rV : ∀ g e h' gs tk' ps', ni = -1 → TriplesOk ps'.toList → AllBare gs → Fr h₀ L g m → Rz base g (envX cn cs L a ccd cl :: outer) e "ValueError" (news.set i (109, tabObj ps')) h' → E (.ref e) { s with heap := h', gens := gs, toks := tk' }) :
    wpAny (model Challenge.rw_ak5005_01.row.prog w) (ktrTop dp un gd cn cs L a ccd cl outer) (call (.ref 114) [.int day t1, .str nm t2]) Q E s := by
  have C0 := C
  obtain ⟨B, F, X, N, T, hk, XB, TB, hdp, hun⟩ := C
  have CH : CodeHd h₀ 113 109 := codeHd_of_K X (by kernel_rfl)
  have N1 := erase_ledger N hi
  have C : Cx w A₀ base h₀ outer L m mg mb mean s ((109, tabObj ps) :: news.eraseIdx i) cs dp un 4 := ⟨B, F, X, N1, T, hk, XB, TB, hdp, hun⟩
  clear N1 N C0 B F X T XB TB hdp hun
  obtain ⟨B, F, X, N, T, hk, XB, TB, hdp, hun⟩ := C
  revert X; k_fill; intro X
  refine wpAny_call ?_
  k_dflt (refine' code_defC (binds := [("day", .int day t1), ("name", .str nm t2)]) ?k1 ?k2 ?k3 ?k4 ?k5 ?kA ?kF ?kK ?k6 ?k7 ?k8 ?k9 ?kB ?kD ?_ ?c2 ?c3 ?c4; (case kA => exact rfl); (case kF => exact rfl); (case kK => assumption); (case k1 => k_asm); (case k2 => k_asm); (case k3 => k_asm); (case k4 => k_asm); (case k5 => k_asm); (case k6 => k_is); (case k7 => k_is); (case k8 => ktr_room); (case k9 => exact BindsTo.of_eq rfl); (case kB => exact rfl); (case kD => decide +kernel); (case c2 => exact rfl); (case c3 => exact rfl); (case c4 => exact rfl); k_whole)
  intro g' L' h' tk' cells' FG' F' N' Y' B' X' T' l1
  have l0 := l1
  try k_lt l1
  obtain ⟨o1, o2, hE', d1, d2⟩ := CellsAre.two Y'
  subst hE'; clear Y'
  simp only [List.cons_append, List.nil_append] at N'
  dsimp only
  try k_lift B'
  try k_fold
  replace F' : Fr g' L' h' (fun y => if y = ("name" : Str) then some (.str nm t2) else none) := F'
  replace d1 : o1.data = .cell none := d1
  replace d2 : o2.data = .cell (some (.int day t1)) := d2
  have CH' : CodeHd g' 113 109 := CH.keeps FG'.keep
  have ln : ∀ q ∈ news.eraseIdx i, q.1 ≠ L' + 1 + 1 := fun q hq => Nat.ne_of_lt (Nat.lt_succ_of_lt (Nat.lt_succ_of_lt (l0 q (.tail _ hq))))
  clear l0
  k_steps
  all_goals first
    | (exfalso; assumption)
    | (refine' rI _ _ _ _ ?h1 ?h2 ?h3; (case h2 => assumption); (case h3 => (refine Rz.sub (by assumption) fun q hq => ?_; have hq := mem_erase_of hi hq; (repeat (first | exact hq | refine List.Mem.tail _ ?_)))); (case h1 => omega))
    | (refine' ret _ _ _ _ _ _ _ ?h1 ?h2 ?h3 ?h4 ?h5 ?h6 ?h7; (case h6 => assumption); (case h7 => exact set_ledger (by assumption) (by k_mem) (fun q hq => by (repeat (first | exact hq | refine List.Mem.tail _ ?_)))); (case h4 => assumption); (case h5 => assumption); (case h1 => omega); (case h2 => omega); (case h3 => omega))
    | (k_dflt (refine' raise_as_out PySem.F.excRaise_ValueError PySem.F.excRaise_ValueError ?K ?F ?N ?H ?hx ?hm ?hk ?hlo ?hd ?hc ?hQ; (case K => assumption); (case F => k_asm); (case N => k_asm); (case H => assumption); (case hx => assumption); (case hm => rfl); (case hk => rfl); (case hlo => rfl); (case hd => decide); (case hc => rfl)); intro h9 tk9 R9; refine' rV _ _ _ _ _ _ ?g1 ?g2 ?g3 ?g4 ?g5; (case g1 => assumption); (case g4 => assumption); (case g5 => exact Rz.sub (Rz.turn (by assumption) R9) (set_sub (by k_mem) (fun q hq => by (repeat (first | exact hq | refine List.Mem.tail _ ?_))))); (case g2 => assumption); (case g3 => assumption))
end
/-! part C8 -/
theorem offC8 : True := by
  w_top off
  trivial
local macro_rules | `(tactic| walk_at "call ref") => `(tactic| (k_here; (with_reducible show wpAny _ _ (call (Value.ref 114) [Value.int _ _, Value.str _ _]) _ _ _); k_dflt (refine' tz_c (Cx.mk ?cB ?cF ?cX ?cN ?cT ?ck ?cXB ?cTB ?cd ?cu) ?hi ?hdis ?htr ?hG ?hm ?_ ?_ ?_; (case cB => k_asm); (case cF => k_asm); (case cX => k_asm); (case cN => k_asm); (case cT => k_asm); (case ck => first | exact rfl | assumption); (case cXB => assumption); (case cTB => assumption); (case cd => ktr_room); (case cu => ktr_units); (case hi => (first | exact (rfl : (_ : List (Addr × Obj))[0]? = _) | exact (rfl : (_ : List (Addr × Obj))[1]? = _) | exact (rfl : (_ : List (Addr × Obj))[2]? = _) | exact (rfl : (_ : List (Addr × Obj))[3]? = _) | exact (rfl : (_ : List (Addr × Obj))[4]? = _) | exact (rfl : (_ : List (Addr × Obj))[5]? = _) | exact (rfl : (_ : List (Addr × Obj))[6]? = _) | exact (rfl : (_ : List (Addr × Obj))[7]? = _))); (case hdis => (((try simp only [List.eraseIdx_cons_zero, List.eraseIdx_cons_succ]); repeat' (first | (with_reducible assumption) | (refine List.forall_mem_cons.mpr ⟨?_, ?_⟩) | (intro q hq; cases hq; done) | (show @Ne Nat _ _; (try dsimp only); omega))))); (case htr => assumption); (case hG => assumption); (case hm => first | assumption | exact Or.inl ⟨by omega, by omega, rfl⟩); k_whole); first | (intro c' tk' h' gs' d' tk'' ps' hd' hn' hc' ht' G' F' N'; (try simp only [List.set_cons_zero, List.set_cons_succ] at N')) | (intro g' e' h' gs' tk' ps' hn' ht' G' F' R'; (try simp only [List.set_cons_zero, List.set_cons_succ] at R')) | (intro g' e' h' tk' hn' F' R')))
theorem sub_cons {α : Type} {l pre : List α} {x : α} (h1 : x ∈ pre) (h2 : ∀ q ∈ l, q ∈ pre) : ∀ q ∈ x :: l, q ∈ pre := fun q hq => (List.mem_cons.mp hq).elim (fun e => e ▸ h1) (h2 q)
section
variable {w : World} {dp un : Nat} {gd : Option (List Code)} {cn : Str} {cs : Scope} {a : Addr} {ccd : Value} {cl : List (Str × Addr)} {outer : List Env} {A₀ : Around} {base h₀ : Heap} {L : Addr} {m mg mb : Str → Option Value} {mean : ExcName → Option Value} {s : Shared} {Q E : Value → Shared → Prop} {news : List (Addr × Obj)}
set_option maxRecDepth 100000 in
set_option maxHeartbeats 1000000 in
theorem next_tz_c {ps : Array Value} {Tn : Addr} {day ni : Int} {nm : Str} {t1 t2 t3 : Tok} {x : UInt64} {z : Int} (C : Cx w A₀ base h₀ outer L m mg mb mean s ((109, tabObj ps) :: (Tn, tup [.int day t1, .str nm t2]) :: news) cs dp un 6)
    (hT : Tn ≠ 109) (hdis : ∀ q ∈ news, q.1 ≠ 109) (htr : TriplesOk ps.toList) (G : AllBare s.gens) (hx : HV x z) (hz : z % 2 = 1 ∧ -2 ^ 30 ≤ z ∧ z < 2 ^ 29)
    (hm : (0 ≤ ni ∧ ni < 20 ∧ nm = nameAt ni) ∨ (ni = -1 ∧ nm = "Nobody"))
    (ret : ∀ y c tk h' gs d tk' ps', 1168565 ≤ z → 1 ≤ day ∧ day ≤ 13 → 0 ≤ ni → (∃ k, c = z + 2 * k ∧ 0 ≤ k ∧ k < 260 ∧ (z / 2 - 584282 + k + 4) % 13 = day % 13 ∧ (z / 2 - 584282 + k) % 20 = (ni + 1) % 20) → HV y c → TriplesOk ps'.toList → AllBare gs → Fr h₀ L h' m → News h₀ L h' ((109, tabObj ps') :: news) →
      Q (.float y tk) { s with heap := h', gens := gs, drawn := d, toks := tk' })
    (rI : ∀ g e h' gs d tk' ps', z < 1168565 ∨ ¬ (1 ≤ day ∧ day ≤ 13) → TriplesOk ps'.toList → AllBare gs → Fr h₀ L g m → Rz base g (envX cn cs L a ccd cl :: outer) e "IndexError" ((109, tabObj ps') :: news) h' → E (.ref e) { s with heap := h', gens := gs, drawn := d, toks := tk' })
    (rV : ∀ g e h' gs d tk' ps', 1168565 ≤ z → ni = -1 → TriplesOk ps'.toList → AllBare gs → Fr h₀ L g m → Rz base g (envX cn cs L a ccd cl :: outer) e "ValueError" ((109, tabObj ps') :: news) h' → E (.ref e) { s with heap := h', gens := gs, drawn := d, toks := tk' }) :
    wpAny (model Challenge.rw_ak5005_01.row.prog w) (ktrTop dp un gd cn cs L a ccd cl outer) (call (.ref 128) [.ref Tn, .float x t3]) Q E s := by
  obtain ⟨B, F, X, N, T, hk, XB, TB, hdp, hun⟩ := C
  revert X; k_fill; intro X
  refine wpAny_call ?_
  k_dflt cell_enter
  k_steps
  all_goals first
    | (exfalso; omega)
    | (refine' ret _ _ _ _ _ _ _ _ ?h1 ?h2 ?h3 ?h4 ?h5 ?h6 ?h7 ?h8 ?h9; (case h5 => assumption); (case h8 => k_asm); (case h9 => exact cb_drop (by assumption) (sub_cons (by k_mem) fun q hq => by (repeat (first | exact hq | refine List.Mem.tail _ ?_)))); (case h6 => assumption); (case h7 => assumption); (case h1 => omega); (case h2 => omega); (case h3 => omega); (case h4 => exact ⟨_, by assumption, by omega, by omega, by omega, by omega⟩))
    | (refine' rV _ _ _ _ _ _ _ ?h1 ?h2 ?h3 ?h4 ?h5 ?h6; (case h5 => assumption); (case h6 => exact Rz.sub (by assumption) (sub_cons (by k_mem) fun q hq => by (repeat (first | exact hq | refine List.Mem.tail _ ?_)))); (case h3 => assumption); (case h4 => assumption); (case h1 => omega); (case h2 => omega))
    | (refine' rI _ _ _ _ _ _ _ ?h1 ?h3 ?h4 ?h5 ?h6; (case h5 => assumption); (case h6 => exact Rz.sub (by assumption) (sub_cons (by k_mem) fun q hq => by (repeat (first | exact hq | refine List.Mem.tail _ ?_)))); (case h3 => assumption); (case h4 => assumption); (case h1 => omega))
end
/-! part R9 -/
theorem offR9 : True := by
  w_top off
  trivial
section
variable {M : Model} {A : Around} {E : Value → Shared → Prop} {s' : Shared} {base g g₂ h : Heap} {outer : List Env} {L a e : Addr} {m : Str → Option Value} {name : Str} {scope : Scope} {cd : Value} {cx : List (Str × Addr)} {Q : Unit → Shared → Prop} {news : List (Addr × Obj)} {X : String}
theorem z_leave_first {ob : Obj} {ws : Array Value} {tp : Value} (K : Below A base outer g) (keeps : ∀ b o, h.get? b = some o → s'.heap.get? b = some o) (new : h.get? e = none) (he : s'.heap.get? e = some ob) (hcls : ob.cls = .type X) (hd : ob.data = .fields ws) (w0 : ws[0]? = some tp) (w1 : ws[1]? = some .none) (F : Fr g L h m) (N : News g L h news)
    (hQ : ∀ h', Rz base g outer e X news h' → Q () { s' with heap := h' }) (hk : scope.kind = .function := by rfl) :
    wpAny M (A.deeper (envX name scope L a cd cx)) (leaving (envX name scope L a cd cx) (.ref e)) Q E s' := by
  have K' := pushX (name := name) (a := a) (cd := cd) (cl := cx) K F hk
  let fs := (envX name scope L a cd cx :: outer).filterMap (·.frame)
  have hin : ∀ env ∈ (envX name scope L a cd cx :: outer), ∀ b, env.frame = some b → b ∈ fs := fun env he b hb => List.mem_filterMap.mpr ⟨env, he, hb⟩
  have st : base.StaysIn (hideAll h fs) := fun b o q => hideAll_get _ (K'.stays b o q) fun hm => by
    rw [(K'.frames.mem hm).1] at q; cases q
  have sg : ∀ b o, g.get? b = some o → b ∉ outer.filterMap (·.frame) → (hideAll h fs).get? b = some o := fun b o q nm => hideAll_get _ (F.keep b o q) fun hm => by
    rcases memX hm with z | z
    · rw [z, kts_self F] at q
      cases q
    · exact nm z
  have hl : ∀ q ∈ news, (hideAll h fs).get? q.1 = some q.2 ∧ g.get? q.1 = none ∧ base.get? q.1 = none := fun q hq => by
    refine ⟨hideAll_get _ (N q hq).1 fun hm => ?_, (N q hq).2.2, fresh_of_stays K.stays (N q hq).2.2⟩
    obtain ⟨env, he, hf⟩ := List.mem_filterMap.mp hm
    rcases List.mem_cons.mp he with rfl | he
    · exact (N q hq).2.1 (Option.some.inj hf).symm
    · obtain ⟨o, ho, _⟩ := (K.frames.mem (List.mem_filterMap.mpr ⟨env, he, hf⟩)).2
      rw [(N q hq).2.2] at ho; cases ho
  have hen : (hideAll h fs).get? e = none := by
    cases q : (hideAll h fs).get? e with
    | none => rfl
    | some o => have := of_hideAll _ q; rw [new] at this; cases this
  refine wpAny_leaving_firstW (a0 := tp) K'.stack ((funFrames_hide K'.frames hin).of_keeps fun b o hb _ => ⟨o, keeps b o hb, rfl⟩) rfl he (fun b o hb => keeps b o (of_hideAll _ hb)) hen hd w1 w0 fun h' hL => ?_
  obtain ⟨k1, ⟨_, _, k2⟩, k3, k4⟩ := hL
  exact hQ h' ⟨⟨_, tp, st, sg, hl, k1, hen, k2, by rw [← hcls]; exact k3⟩, ((Heap.UpToSlots.of_keeps F.keep).trans (Heap.UpToSlots.of_keeps keeps)).trans k4⟩
end
section
variable {prog : Program} {w : World} {A₀ : Around} {E0 E0' : Value → Shared → Prop} {s : Shared} {base g h0 : Heap} {outer : List Env} {L a e e2 : Addr} {m : Str → Option Value} {name : Str} {scope : Scope} {cd : Value} {cx : List (Str × Addr)} {Q : Flow → Shared → Prop} {news : List (Addr × Obj)} {X cls : String} {oe : Obj} {vs : Array Value} {args : List Value}
theorem raise_out0 {cause : Option (Sem Value)} (G : ExcRaiseFacts cls) (K : Below A₀ base outer g) (F : Fr g L h0 m) (N : News g L h0 ((e, oe) :: news)) (H : HeldE X oe vs) (hx : Heap.MadeExc h0 s.heap e2 cls args) (hk : scope.kind = .function)
    (hc : cause = none)
    (hQ : ∀ h', Rz base g outer e2 cls news h' → E0 (.ref e2) { s with heap := h' }) :
    wpAny (model prog w) ((A₀.deeper (envX name scope L a cd cx)).mark (some (.ref e))) (tailCause (.ref e2) cause) Q
      (fun y s' => wpAny (model prog w) (A₀.deeper (envX name scope L a cd cx)) (leaving (envX name scope L a cd cx) y) (fun _ s'' => E0 y s'') E0' s') s := by
  subst hc
  obtain ⟨t, he2, htn, _⟩ := hx.there
  have he := hx.keeps _ _ (N _ (.head _)).1
  have hne : e ≠ e2 := fun q => by have := (N _ (.head _)).1; rw [show (e, oe).1 = e2 from q, hx.new] at this; cases this
  refine tail_none G (by rfl) he2 he H hne fun h' ws hs hw w0 w1 w2 => ?_
  refine z_leave_first (s' := { s with heap := h' }) (h := h0) K (fun b o q => (hs.2 b (fun z => by rw [z, hx.new] at q; cases q)).trans (hx.keeps b o q)) hx.new hw rfl rfl w0 w1 F (fun q hq => N q (.tail _ hq)) (fun h'' R => hQ h'' R) hk
end
/-! part C6b -/
theorem offC6b : True := by
  w_top off
  trivial
theorem th_hk {z p i j c7 c6 b mi hday k : Int} (hi : i = (p + 348) % 365 % 20) (hj : j = (p + 348) % 365 / 20) (hp : p = z / 2 - 584282) (h7 : c7 = 20 * j + i) (h6 : c6 = 20 * mi + hday) (h5 : b = (c6 - c7) % 365) :
    k % 365 = b ↔ (z / 2 - 584282 + 348 + k) % 365 = (20 * mi + hday) % 365 := by
  subst h5 h6
  have e : c7 = (p + 348) % 365 := by omega
  rw [e, ← hp]
  clear hi hj h7 e hp
  generalize 20 * mi + hday = q
  omega
theorem th_tk {z p i j c4 c3 a ni day k : Int} (hi : i = (p + 3) % 13 + 1) (hj : j = (p + 19) % 20) (hp : p = z / 2 - 584282) (h4 : 1 ≤ c4 ∧ c4 ≤ 260 ∧ c4 % 13 = i % 13 ∧ c4 % 20 = (j + 1) % 20)
    (h3 : 1 ≤ c3 ∧ c3 ≤ 260 ∧ c3 % 13 = day % 13 ∧ c3 % 20 = (ni + 1) % 20) (h2 : a = (c3 - c4) % 260) :
    k % 260 = a ↔ ((z / 2 - 584282 + k + 4) % 13 = day % 13 ∧ (z / 2 - 584282 + k) % 20 = (ni + 1) % 20) := by
  subst h2
  rw [← hp, ← h3.2.2.1, ← h3.2.2.2]
  have e1 : c4 % 13 = (p + 4) % 13 := by omega
  have e2 : c4 % 20 = p % 20 := by omega
  clear hi hj hp h4 h3
  constructor
  · intro h; exact ⟨by omega, by omega⟩
  · rintro ⟨h1, h2⟩; omega
/-! part C9 -/
theorem offC9 : True := by
  w_top off
  trivial
/-- what the two rows of days have in common: one number of the 18,980, or none -/
theorem th_meet {σ : List Int} {a b : Int} (ha : 0 ≤ a ∧ a < 260) (hb : 0 ≤ b ∧ b < 365) (hnd : σ.Nodup)
    (h : ∀ k, k ∈ σ ↔ (firstMet (fun j : Nat => 0 + (j : Int) * 260 + a) 73).any (· == k) = true ∧ (firstMet (fun j : Nat => 0 + (j : Int) * 365 + b) 52).any (· == k) = true) :
    (∃ c, σ = [c] ∧ (0 ≤ c ∧ c < 18980 ∧ c % 260 = a ∧ c % 365 = b)) ∨ (σ = [] ∧ ∀ c, 0 ≤ c ∧ c < 18980 → c % 260 = a → c % 365 = b → False) := by
  have h' : ∀ k, k ∈ σ ↔ (∃ j : Nat, j < 73 ∧ 0 + (j : Int) * 260 + a = k) ∧ (∃ j : Nat, j < 52 ∧ 0 + (j : Int) * 365 + b = k) := fun k => by rw [h, met_iff, met_iff]
  cases hq : σ with
  | nil =>
    refine .inr ⟨rfl, fun c hc h1 h2 => ?_⟩
    have : c ∈ σ := (h' c).mpr ⟨⟨(c / 260).toNat, by omega, by omega⟩, ⟨(c / 365).toNat, by omega, by omega⟩⟩
    rw [hq] at this; cases this
  | cons x l =>
    have hx : x ∈ σ := by rw [hq]; exact .head _
    obtain ⟨⟨i, hi, e1⟩, ⟨j, hj, e2⟩⟩ := (h' x).mp hx
    refine .inl ⟨x, ?_, by omega, by omega, by omega, by omega⟩
    rw [← hq]
    refine one_of hnd fun k => ⟨fun hk => ?_, fun e => e ▸ hx⟩
    obtain ⟨⟨i', hi', e3⟩, ⟨j', hj', e4⟩⟩ := (h' k).mp hk
    clear h h' hk hx hq
    omega
local macro_rules | `(tactic| walk_at "call builtin:set.pop") => `(tactic| (k_here; (with_reducible show wpAny _ _ (call _ [Value.ref _]) _ _ _); k_dflt (refine' pop_K ?hA ?F ?N ?hl ?hs ?hσ ?_ ?_; (case hA => exact rfl); (case F => k_asm); (case N => k_asm); (case hl => assumption); (case hs => with_reducible assumption); (case hσ => (refine th_meet ?_ ?_ (by assumption) (by assumption) <;> omega)); k_whole); first | intro c' t' h' d' hc' F' N' | intro hz' h' tk' e' hx'))
section
variable {prog : Program} {w : World} {A : Around} {E : Value → Shared → Prop} {s : Shared} {Q : Value → Shared → Prop} {x : UInt64} {t u : Tok} {z n : Int}
theorem add_th {P : Prop} (hx : HV x z) (hz : z % 2 = 1 ∧ 1168565 ≤ z ∧ z < 2 ^ 29) (hc : 0 ≤ n ∧ n < 18980 ∧ P) (h : ∀ y c, HV y c → c = z + 2 * n → Q (.float y s.toks) { s with toks := s.toks + 1 }) :
    wpAny (model prog w) A (binaryOp .Add (.int n u) (.float x t)) Q E s :=
  r_add_if hx (by omega) fun y c hy hc => h y c hy (by omega)
end
local macro_rules | `(tactic| walk_at "binaryOp Add int float") => `(tactic| (k_here; (with_reducible show wpAny _ _ (binaryOp _ (Value.int _ _) (Value.float _ _)) _ _ _); k_dflt (refine' add_th ?k1 ?k2 ?k3 ?_; (case k1 => with_reducible assumption); (case k2 => with_reducible assumption); (case k3 => with_reducible assumption)); intro z' c' hz' hc'))
section
variable {w : World} {dp un : Nat} {gd : Option (List Code)} {cn : Str} {cs : Scope} {a : Addr} {ccd : Value} {cl : List (Str × Addr)} {outer : List Env} {A₀ : Around} {base h₀ : Heap} {L : Addr} {m mg mb : Str → Option Value} {mean : ExcName → Option Value} {s : Shared} {Q E : Value → Shared → Prop} {news : List (Addr × Obj)}
set_option maxRecDepth 100000 in
set_option maxHeartbeats 3000000 in
theorem nth_c {ps qs : Array Value} {Tn Hn : Addr} {day ni hday mi : Int} {nm mo : Str} {t1 t2 t3 t4 t5 : Tok} {x : UInt64} {z : Int} (C : Cx w A₀ base h₀ outer L m mg mb mean s ((130, tabObj qs) :: (109, tabObj ps) :: (Tn, tup [.int day t1, .str nm t2]) :: (Hn, tup [.int hday t3, .str mo t4]) :: news) cs dp un 6)
    (hT : Tn ≠ 109) (hH : Hn ≠ 109) (hT' : Tn ≠ 130) (hH' : Hn ≠ 130) (hdis : ∀ q ∈ news, q.1 ≠ 109) (hdis' : ∀ q ∈ news, q.1 ≠ 130) (htr : TriplesOk ps.toList) (htr' : TriplesOk qs.toList) (G : AllBare s.gens) (hx : HV x z) (hz : z % 2 = 1 ∧ 1168565 ≤ z ∧ z < 2 ^ 29)
    (hm : (0 ≤ ni ∧ ni < 20 ∧ nm = nameAt ni) ∨ (ni = -1 ∧ nm = "Nobody")) (hm' : (0 ≤ mi ∧ mi < 19 ∧ mo = moonAt mi) ∨ (mi = -1 ∧ mo = "Nobody"))
    (ret : ∀ y c tk h' gs d tk' ps' qs', 1 ≤ day ∧ day ≤ 13 → 0 ≤ ni → 0 ≤ hday ∧ hday < 20 → 0 ≤ mi → (∃ k, c = z + 2 * k ∧ 0 ≤ k ∧ k < 18980 ∧ (z / 2 - 584282 + k + 4) % 13 = day % 13 ∧ (z / 2 - 584282 + k) % 20 = (ni + 1) % 20 ∧ (z / 2 - 584282 + 348 + k) % 365 = (20 * mi + hday) % 365) →
      HV y c → TriplesOk ps'.toList → TriplesOk qs'.toList → AllBare gs → Fr h₀ L h' m → News h₀ L h' ((130, tabObj qs') :: (109, tabObj ps') :: news) → Q (.float y tk) { s with heap := h', gens := gs, drawn := d, toks := tk' })
    (rI : ∀ g e h' gs d tk' ps' qs', (¬ (1 ≤ day ∧ day ≤ 13) ∨ ¬ (0 ≤ hday ∧ hday < 20) ∨ (0 ≤ ni ∧ 0 ≤ mi ∧ ∀ k, 0 ≤ k ∧ k < 18980 → (z / 2 - 584282 + k + 4) % 13 = day % 13 → (z / 2 - 584282 + k) % 20 = (ni + 1) % 20 → (z / 2 - 584282 + 348 + k) % 365 = (20 * mi + hday) % 365 → False)) →
      TriplesOk ps'.toList → TriplesOk qs'.toList → AllBare gs → Fr h₀ L g m → Rz base g (envX cn cs L a ccd cl :: outer) e "IndexError" ((130, tabObj qs') :: (109, tabObj ps') :: news) h' → E (.ref e) { s with heap := h', gens := gs, drawn := d, toks := tk' })
    (rV : ∀ g e h' gs d tk' ps' qs', ni = -1 ∨ mi = -1 → TriplesOk ps'.toList → TriplesOk qs'.toList → AllBare gs → Fr h₀ L g m → Rz base g (envX cn cs L a ccd cl :: outer) e "ValueError" ((130, tabObj qs') :: (109, tabObj ps') :: news) h' → E (.ref e) { s with heap := h', gens := gs, drawn := d, toks := tk' }) :
    wpAny (model Challenge.rw_ak5005_01.row.prog w) (ktrTop dp un gd cn cs L a ccd cl outer) (call (.ref 135) [.ref Tn, .ref Hn, .float x t5]) Q E s := by
  have C0 := C
  obtain ⟨B, F, X, N, T, hk, XB, TB, hdp, hun⟩ := C
  have CH : CodeHd h₀ 134 130 := codeHd_of_K X (by kernel_rfl)
  have C := C0
  clear N C0 B F X T XB TB hdp hun
  obtain ⟨B, F, X, N, T, hk, XB, TB, hdp, hun⟩ := C
  revert X; k_fill; intro X
  refine wpAny_call ?_
  k_dflt (refine' code_defC (binds := [("tzolkin", .ref Tn), ("haab", .ref Hn), ("jd", .float x t5)]) ?k1 ?k2 ?k3 ?k4 ?k5 ?kA ?kF ?kK ?k6 ?k7 ?k8 ?k9 ?kB ?kD ?_ ?c2 ?c3 ?c4; (case kA => exact rfl); (case kF => exact rfl); (case kK => assumption); (case k1 => k_asm); (case k2 => k_asm); (case k3 => k_asm); (case k4 => k_asm); (case k5 => k_asm); (case k6 => k_is); (case k7 => k_is); (case k8 => ktr_room); (case k9 => exact BindsTo.of_eq rfl); (case kB => exact rfl); (case kD => decide +kernel); (case c2 => exact rfl); (case c3 => exact rfl); (case c4 => exact rfl); k_whole)
  intro g' L' h' tk' cells' FG' F' N' Y' B' X' T' l1
  have l0 := l1
  try k_lt l1
  obtain ⟨o1, o2, hE', d1, d2⟩ := CellsAre.two Y'
  subst hE'; clear Y'
  simp only [List.cons_append, List.nil_append] at N'
  dsimp only
  try k_lift B'
  try k_fold
  replace F' : Fr g' L' h' (fun y => if y = ("jd" : Str) then some (.float x t5) else if y = ("haab" : Str) then some (.ref Hn) else if y = ("tzolkin" : Str) then some (.ref Tn) else none) := F'
  replace d1 : o1.data = .cell none := d1
  replace d2 : o2.data = .cell none := d2
  have CH' : CodeHd g' 134 130 := CH.keeps FG'.keep
  have ln : ∀ q ∈ news, q.1 ≠ L' + 1 + 1 := fun q hq => Nat.ne_of_lt (Nat.lt_succ_of_lt (Nat.lt_succ_of_lt (l0 q (.tail _ (.tail _ (.tail _ (.tail _ hq)))))))
  have ln' : ∀ q ∈ news, q.1 ≠ L' + 1 := fun q hq => Nat.ne_of_lt (Nat.lt_succ_of_lt (l0 q (.tail _ (.tail _ (.tail _ (.tail _ hq))))))
  clear l0
  k_steps
  all_goals first
    | (refine' ret _ _ _ _ _ _ _ _ _ ?h1 ?h2 ?h3 ?h4 ?h5 ?h6 ?h7 ?h8 ?h9 ?ha ?hb; (case h6 => assumption); (case ha => k_asm); (case hb => exact cb_drop (by assumption) (sub_cons (by k_mem) (sub_cons (by k_mem) fun q hq => by (repeat (first | exact hq | refine List.Mem.tail _ ?_))))); (case h7 => assumption); (case h8 => assumption); (case h9 => assumption); (case h1 => assumption); (case h2 => assumption); (case h3 => assumption); (case h4 => assumption); (case h5 => (have f1 := fun k => th_hk (k := k) (by assumption) (by assumption) (by assumption) (by assumption) (by assumption) (by assumption); have f2 := fun k => th_tk (k := k) (by assumption) (by assumption) (by assumption) (by assumption) (by assumption) (by assumption); refine ⟨_, by assumption, ?_⟩; rename (_ ∧ _ ∧ _ % 260 = _ ∧ _ % 365 = _) => hx9; exact ⟨hx9.1, hx9.2.1, ((f2 _).mp hx9.2.2.1).1, ((f2 _).mp hx9.2.2.1).2, (f1 _).mp hx9.2.2.2⟩)))
    | (refine' rV _ _ _ _ _ _ _ _ ?h1 ?h3 ?h3' ?h4 ?h5 ?h6; (case h5 => assumption); (case h6 => exact Rz.sub (by assumption) (sub_cons (by k_mem) (sub_cons (by k_mem) fun q hq => by (repeat (first | exact hq | refine List.Mem.tail _ ?_))))); (case h3 => assumption); (case h3' => assumption); (case h4 => assumption); (case h1 => first | exact Or.inl (by assumption) | exact Or.inr (by assumption) | (exfalso; omega)))
    | (refine' rI _ _ _ _ _ _ _ _ ?h1 ?h3 ?h3' ?h4 ?h5 ?h6; (case h5 => assumption); (case h6 => exact Rz.sub (by assumption) (sub_cons (by k_mem) (sub_cons (by k_mem) fun q hq => by (repeat (first | exact hq | refine List.Mem.tail _ ?_))))); (case h3 => assumption); (case h3' => assumption); (case h4 => assumption); (case h1 => first | exact Or.inl (by assumption) | exact Or.inr (Or.inl (by assumption)) | (exfalso; omega)))
    | (k_dflt (refine' raise_out0 PySem.F.excRaise_IndexError ?K ?F ?N ?H ?hx ?hk ?hc ?hQ; (case K => assumption); (case F => k_asm); (case N => k_asm); (case H => assumption); (case hx => assumption); (case hk => rfl); (case hc => rfl)); intro h9 R9; refine' rI _ _ _ _ _ _ _ _ ?h1 ?h3 ?h3' ?h4 ?h5 ?h6; (case h5 => assumption); (case h6 => exact Rz.sub (Rz.turn (by assumption) R9) (sub_cons (by k_mem) (sub_cons (by k_mem) fun q hq => by (repeat (first | exact hq | refine List.Mem.tail _ ?_))))); (case h3 => assumption); (case h3' => assumption); (case h4 => assumption); (case h1 => (have f1 := fun k => th_hk (k := k) (by assumption) (by assumption) (by assumption) (by assumption) (by assumption) (by assumption); have f2 := fun k => th_tk (k := k) (by assumption) (by assumption) (by assumption) (by assumption) (by assumption) (by assumption); rename (∀ _ : Int, _ → _ → _ → False) => hx9; exact Or.inr (Or.inr ⟨by assumption, by assumption, fun k hk q1 q2 q3 => hx9 k hk ((f2 k).mpr ⟨q1, q2⟩) ((f1 k).mpr q3)⟩))))
end
/-! part R10 -/
theorem offR10 : True := by
  w_top off
  trivial
set_option maxRecDepth 100000
namespace Bf
theorem slot_get : Slot "method_descriptor" "__get__" "method_descriptor.__get__" :=
  .of (owner := "method_descriptor") (n := "__get__") (by rw [typeLookup_type, builtinLookup_eq_fast]; kernel_rfl) (by decide +kernel) (by decide +kernel) (by decide +kernel)
    (by first | exact .inl (by decide +kernel) | exact .inr (by decide +kernel)) (by rw [isSubtype_type]; kernel_rfl)
theorem no_set : typeLookup (.type "method_descriptor") "__set__" = pure none := by rw [typeLookup_type, builtinLookup_eq_fast]; kernel_rfl
theorem no_delete : typeLookup (.type "method_descriptor") "__delete__" = pure none := by rw [typeLookup_type, builtinLookup_eq_fast]; kernel_rfl
theorem entry_get : entryFor table "method_descriptor.__get__" = some Builtin.«method_descriptor.__get__» := entryFor_of_tree (by kernel_rfl)
theorem args_get (a b c : Value) : argsOk "method_descriptor.__get__" ⟨[a, b, c], []⟩ := by unfold argsOk; kernel_rfl
theorem owner_fmt : (".".intercalate ("str.format".cutAt '.').dropLast) = "str" := by
  have e0 : "str.format".cutAt '.' = ["str", "format"] := by first | rfl | decide +kernel
  rw [e0]; decide +kernel
theorem sub_fmt : isSubtype (.type "str") (.type (".".intercalate ("str.format".cutAt '.').dropLast)) = pure true := by rw [owner_fmt, isSubtype_type]; kernel_rfl
theorem told_fmt : Manifest.toldItsClass.contains "str.format" = false := by decide +kernel
abbrev bound (x : Str) (u : Tok) : Obj := { cls := .type "builtin_function_or_method", dict := none, data := .fields #[.builtin "str.format", .str x u] }
section
variable {prog : Program} {w : World} {A : Around} {E : Value → Shared → Prop} {h : Heap} {g : Array GenState} {d : Drawn} {t : Nat} {os : OsState} {x : Str} {u : Tok}
theorem get_fmt {R : Result → Shared → Prop} (hq : R (.ok (.ret (.ref h.objs.size))) ⟨h.push (bound x u), g, d, t, os⟩) :
    codeAny (model prog w) A (.call (.builtin "method_descriptor.__get__") ⟨[.builtin "str.format", .str x u, .type "str"], []⟩) R ⟨h, g, d, t, os⟩ := by
  have hT : (⟨h, g, d, t, os⟩ : Shared).TypeIs (.str x u) "str" := rfl
  have hT5 : (⟨h, g, d, t, os⟩ : Shared).TypeIs (.builtin "str.format") "method_descriptor" := F.type_str_format_m
  have f8 := sub_fmt
  refine codeAny_call_builtin slot_get.plain entry_get (slot_get.check _ _ _ _ _ _ _ _ hT5 (args_get _ _ _) ?_)
  unfold Builtin.«method_descriptor.__get__»
  refine wpAny_bind (wpAny_of_eq (a := (.builtin "str.format", some (.str x u), some (.type "str"))) rfl ?_)
  dsimp only
  simp only [told_fmt, Bool.false_eq_true, if_false]
  try refine wpAny_bind (wpAny_pure ?_)
  repeat (any_goals (first | assumption | wp_step))
theorem entry_fmt {tk : Tok} {Q : Fin → Shared → Prop} (hq : Q (.done (.ret (.ref h.objs.size))) ⟨h.push (bound x u), g, d, t, os⟩) :
    wpAny (model prog w) A (Builtin.«object.__getattribute__» ⟨[.str x u, .str "format" tk], []⟩) Q E ⟨h, g, d, t, os⟩ := by
  have hT : (⟨h, g, d, t, os⟩ : Shared).TypeIs (.str x u) "str" := rfl
  have hT5 : (⟨h, g, d, t, os⟩ : Shared).TypeIs (.builtin "str.format") "method_descriptor" := F.type_str_format_m
  have f4 := F.slot_str_format_m.lookup
  have f5 := F.type_str_format_m
  have f6 := slot_get.lookup
  have f7 := no_set
  have f9 := no_delete
  repeat (any_goals (first | assumption | wp_step))
  refine get_fmt ?_
  repeat (any_goals (first | assumption | wp_step))
theorem call_fmt {tk : Tok} {R : Result → Shared → Prop} (hq : R (.ok (.ret (.ref h.objs.size))) ⟨h.push (bound x u), g, d, t, os⟩) :
    codeAny (model prog w) A (.call (.builtin "object.__getattribute__") ⟨[.str x u, .str "format" tk], []⟩) R ⟨h, g, d, t, os⟩ :=
  codeAny_call_builtin F.slot_str_getattribute.plain F.entry_object_getattribute (F.slot_str_getattribute.check _ _ _ _ _ _ _ _ (show (⟨h, g, d, t, os⟩ : Shared).TypeIs (.str x u) "str" from rfl) (F.args_object_getattribute_2 _ _) (entry_fmt hq))
theorem by_fmt {tk : Tok} {Q : Value → Shared → Prop} (hq : Q (.ref h.objs.size) ⟨h.push (bound x u), g, d, t, os⟩) : wpAny (model prog w) A (getAttrBy (.str x u) (.str "format" tk) true true) Q E ⟨h, g, d, t, os⟩ := by
  have hT : (⟨h, g, d, t, os⟩ : Shared).TypeIs (.str x u) "str" := rfl
  have f2 := F.slot_str_getattribute.lookup
  have f3 := F.slot_str_getattribute.bind (.str x u)
  repeat (any_goals (first | assumption | wp_step))
  refine call_fmt ?_
  repeat (any_goals (first | assumption | wp_step))
theorem attr_fmt {Q : Value → Shared → Prop} (hq : Q (.ref h.objs.size) ⟨h.push (bound x u), g, d, t + 1, os⟩) : wpAny (model prog w) A (getAttr (.str x u) "format" true) Q E ⟨h, g, d, t, os⟩ := by
  unfold getAttr
  exact wpAny_bind (wpAny_mkText (by_fmt hq))
theorem check_fmt {X : Str} {a b c e : Value} : checkBoundCall "str.format" ⟨[.str X u, a, b, c, e], []⟩ = pure () := by first | kernel_rfl | rfl
theorem call_bound {s : Shared} {b : Addr} {X T : Str} {a1 a2 a3 a4 : Value} {Q : Value → Shared → Prop} (hb : s.heap.get? b = some (bound X u))
    (hm : Meets (Builtin.«str.format» ⟨[.str X u, a1, a2, a3, a4], []⟩) (fun _ R s => ∀ t' k, R (.ok (.ret (.str T t'))) { s with toks := k })) (h : ∀ t' k, Q (.str T t') { s with toks := k }) :
    wpAny (model prog w) A (call (.ref b) [a1, a2, a3, a4]) Q E s := by
  refine wpAny_call (codeAny_of_tree ?_)
  show wpAny _ _ (callAny (.ref b) _) _ _ _
  unfold callAny
  refine wpAny_bind (wpAny_load hb ?_)
  dsimp only
  rw [if_pos (by decide)]
  show wpAny _ _ (if (Value.type "builtin_function_or_method" != Value.type "method") = true then _ else _) _ _ _
  rw [if_pos (by decide)]
  refine wpAny_bind (wpAny_of_eq check_fmt ?_)
  refine wpAny_pure ⟨plainId_quiet F.slot_str_format_m.plain _, codeAny_builtin F.entry_str_format_m ?_⟩
  rw [Around.under_plainId F.slot_str_format_m.plain _]
  exact hm prog w A (wants Q E) s h
end
section
variable {M : Model} {A : Around} {E : Value → Shared → Prop} {s : Shared} {env : Env} {pos p apos : Pos} {Q : Value → Shared → Prop} {e o : Expr}
theorem starMeth {name : Str} (h : wpAny M A (eval o env) (fun ov s₁ => wpAny M A (getAttr ov name true) (fun f s₂ => wpAny M A (callWith pos f [] (backTo pos (starEach [.Starred e p] env)) []) Q E s₂) E s₁) E s)
    (he : eval (.Call (.Attribute o name apos) [.Starred e p] [] pos) env = (do
      let ov ← eval o env
      standAt apos.atName
      let (f, first) ← holding [ov] (do pure (← getAttr ov name true, []))
      let cp ← pure pos
      callWith cp f first (backTo pos (starEach [.Starred e p] env)) []) := by rfl) :
    wpAny M A (eval (.Call (.Attribute o name apos) [.Starred e p] [] pos) env) Q E s := by
  rw [he]
  refine wpAny_bind (wpAny_mono h (fun ov s₁ h₁ => wpAny_bind (wpAny_standAt (wpAny_bind (wpAny_holding (wpAny_bind (wpAny_mono h₁ (fun f s₂ h₂ => wpAny_pure ?_) fun _ _ x => x)))))) fun _ _ x => x)
  exact wpAny_bind (wpAny_pure h₂)
end
section
variable {prog : Program} {w : World} {A : Around} {E : Value → Shared → Prop} {s : Shared} {env : Env} {pos p : Pos} {h₀ : Heap} {L : Addr} {m : Str → Option Value} {news : List (Addr × Obj)} {e : Expr} {Q : Value → Shared → Prop} {X : Str} {u : Tok}
theorem attr_K (F : Fr h₀ L s.heap m) (N : News h₀ L s.heap news)
    (h : ∀ D h' tk, Fr h₀ L h' m → News h₀ L h' ((D, bound X u) :: news) → (∀ q ∈ news, q.1 < D) → Q (.ref D) { s with heap := h', toks := tk }) :
    wpAny (model prog w) A (getAttr (.str X u) "format" true) Q E s := by
  obtain ⟨hp, g, d, t, os⟩ := s
  have hLlt : L < hp.objs.size := F.ns.lt
  refine attr_fmt (h hp.objs.size _ (t + 1) (F.keeps fun _ _ e => Heap.get?_push_of_some _ e) (fun q hq => ?_) fun q hq => Heap.lt_size (N q hq).1)
  rcases List.mem_cons.mp hq with rfl | hq
  · exact ⟨Heap.get?_push_size _ rfl, Nat.ne_of_gt hLlt, Heap.get?_none_of_le (Nat.le_trans F.above (Nat.le_of_lt hLlt))⟩
  · exact ⟨Heap.get?_push_of_some _ (N q hq).1, (N q hq).2⟩
def BoundAt (b : Addr) (h : Heap) : Prop := ∃ X u, h.get? b = some (bound X u)
theorem keeps_bound {M : Model} {b : Addr} (h : Heap) (x : BoundAt b h) : ∃ k, (k = Keeper.frame ∨ k = Keeper.machine ∨ k = Keeper.boundFrame) ∧ Looks M h (keeperOf (.ref b)) k := by
  obtain ⟨X, u, e⟩ := x
  exact ⟨.machine, .inr (.inl rfl), (Looks.ld (part := none) e).andThen .now⟩
theorem callWith_bound {M : Model} {b : Addr} (h : wpAny M A (eval e env) (fun v s₁ => StarOf M A E v (fun vs s₂ => BoundAt b s₂.heap ∧ wpAny M A (call (.ref b) ([] ++ vs)) Q E s₂) s₁) E s)
    (he : starEach [.Starred e p] env = [(true, eval e env)] := by rfl) :
    wpAny M A (callWith pos (.ref b) [] (backTo pos (starEach [.Starred e p] env)) []) Q E s := by
  rw [he]
  exact ks_call (P := BoundAt b) rfl keeps_bound (ks_lone h)
theorem BoundAt.of {h : Heap} {b : Addr} (N : News h₀ L h news) (hm : (b, bound X u) ∈ news) : BoundAt b h := ⟨X, u, (N _ hm).1⟩
end
end Bf
/-! part C10 -/
theorem offC10 : True := by
  w_top off
  trivial
local macro_rules | `(tactic| walk_at "eval Call Attribute") => `(tactic| (k_here; (with_reducible show wpAny _ _ (eval (Expr.Call (Expr.Attribute (Expr.Constant _ _ _) _ _) [Expr.Starred _ _] [] _) _) _ _ _); refine Bf.starMeth ?_))
local macro_rules | `(tactic| walk_at "getAttr str") => `(tactic| (k_here; (with_reducible show wpAny _ _ (getAttr (Value.str _ _) ("format" : Str) true) _ _ _); k_dflt (refine' Bf.attr_K ?k1 ?k2 ?_; (case k1 => k_asm); (case k2 => k_asm); k_whole); intro D' h' tk' F' N' l1; (try k_lt l1)))
local macro_rules | `(tactic| walk_at "callWith ref") => `(tactic| (k_here; (with_reducible show wpAny _ _ (callWith _ (Value.ref _) [] (backTo _ (starEach [Expr.Starred _ _] _)) []) _ _ _); k_dflt (refine' Bf.callWith_bound ?_; k_whole)))
local macro_rules | `(tactic| walk_at "BoundAt") => `(tactic| (k_dflt (exact Bf.BoundAt.of (by k_asm) (by k_mem))))
local macro_rules | `(tactic| walk_at "call ref") => `(tactic| (k_here; (with_reducible show wpAny _ _ (call (Value.ref _) [Value.int _ _, Value.str _ _, Value.int _ _, Value.str _ _]) _ _ _); k_dflt (refine' Bf.call_bound ?hb (Fm.four ?hi ?hj ?hy ?hz) ?_; (case hb => (rename News _ _ _ _ => N9; exact (N9 _ (by k_mem)).1)); (case hi => omega); (case hj => omega); (case hy => exact nameAt_len (by omega)); (case hz => exact moonAt_len (by omega))); intro _ _))
section
variable {w : World} {dp un : Nat} {gd : Option (List Code)} {cn : Str} {cs : Scope} {a : Addr} {ccd : Value} {cl : List (Str × Addr)} {outer : List Env} {A₀ : Around} {base h₀ : Heap} {L : Addr} {m mg mb : Str → Option Value} {mean : ExcName → Option Value} {s : Shared} {Q E : Value → Shared → Prop} {news : List (Addr × Obj)}
set_option maxRecDepth 100000 in
set_option maxHeartbeats 1000000 in
theorem from_neg_c (C : Cx w A₀ base h₀ outer L m mg mb mean s news cs dp un 2) {x : UInt64} {z : Int} {t : Tok} (hx : HV x z) (hz : -2 ^ 30 ≤ z ∧ z < 1168565)
    (rV : ∀ g e h' tk', Fr h₀ L g m → Rz base g (envX cn cs L a ccd cl :: outer) e "ValueError" news h' → E (.ref e) { s with heap := h', toks := tk' }) :
    wpAny (model Challenge.rw_ak5005_01.row.prog w) (ktrTop dp un gd cn cs L a ccd cl outer) (call (.ref 65) [.float x t]) Q E s := by
  obtain ⟨B, F, X, N, T, hk, XB, TB, hdp, hun⟩ := C
  revert X; k_fill; intro X
  refine wpAny_call ?_
  k_dflt cell_enter
  k_steps
  all_goals first
    | (exfalso; omega)
    | exact rV _ _ _ _ (by assumption) (by assumption)
set_option maxRecDepth 100000 in
set_option maxHeartbeats 1000000 in
theorem lc_ht_c (C : Cx w A₀ base h₀ outer L m mg mb mean s news cs dp un 4) {b k t u i p : Int} {t1 t2 t3 t4 t5 : Tok} (hb : 0 ≤ b ∧ b < 1000) (hk' : 0 ≤ k ∧ k < 20) (ht : 0 ≤ t ∧ t < 20) (hu : 0 ≤ u ∧ u < 18) (hi : 0 ≤ i ∧ i < 20) (hp : p = b * 144000 + k * 7200 + t * 360 + u * 20 + i)
    (ret : ∀ n j d l tk h' tk', n = (p + 3) % 13 + 1 → j = (p + 19) % 20 → d = (p + 348) % 365 % 20 → l = (p + 348) % 365 / 20 → Fr h₀ L h' m → News h₀ L h' news →
      Q (.str ((((((Str.ofString (toString n) ++ Str.ofString " ") ++ nameAt j) ++ Str.ofString " ") ++ Str.ofString (toString d)) ++ Str.ofString " ") ++ moonAt l) tk) { s with heap := h', toks := tk' }) :
    wpAny (model Challenge.rw_ak5005_01.row.prog w) (ktrTop dp un gd cn cs L a ccd cl outer) (call (.ref 100) [.int b t1, .int k t2, .int t t3, .int u t4, .int i t5]) Q E s := by
  obtain ⟨B, F, X, N, T, hk, XB, TB, hdp, hun⟩ := C
  revert X; k_fill; intro X
  refine wpAny_call ?_
  k_dflt cell_enter
  k_steps
  refine' ret _ _ _ _ _ _ _ ?h1 ?h2 ?h3 ?h4 ?hF ?hN
  case hF => k_asm
  case hN => exact cb_drop (by assumption) (fun q hq => by (repeat (first | exact hq | refine List.Mem.tail _ ?_)))
  case h1 => omega
  case h2 => omega
  case h3 => omega
  case h4 => omega
end
/-! part R11 -/
theorem offR11 : True := by
  w_top off
  trivial
section
variable {prog : Program} {w : World} {A₀ A : Around} {s : Shared} {base h₀ g₀ : Heap} {outer : List Env} {L a : Addr} {m : Str → Option Value} {cn : Str} {cs : Scope} {ccd : Value} {cl : List (Str × Addr)} {news : List (Addr × Obj)} {K : Frag} {p : Program} {loose : List Str} {mean : ExcName → Option Value} {mg mb : Str → Option Value}
    {R : Result → Shared → Prop} {name qual : Str} {params : Arguments} {body : List Stmt} {scope : Scope} {dV kV doc pm cdv ct oc : Value} {an od : Option Addr} {osl : Array (Option Value)} {f : Addr} {args : Args} {binds : List (Str × Value)}
/-- what stands when a def is entered from a frame with cells -/
theorem ask_enter (B : Below A₀ base outer h₀) (F : Fr h₀ L s.heap m) (N : News h₀ L s.heap news) (hA : A.frames = some (envX cn cs L a ccd cl :: outer)) (hck : cs.kind = .function) :
    ∃ oL es ep, (hideAll s.heap (news.map (·.1))).get? L = some oL ∧ oL.data = .dict es ep ∧ (∀ h', h'.get? L = some oL → Heap.Ns h' L m) ∧ (∀ (sl : Array (Option Value)) h', h'.get? L = some { oL with slots := sl } → Heap.Ns h' L m) ∧
      h₀.StaysIn (hideAll s.heap (news.map (·.1))) ∧ Below A base (envX cn cs L a ccd cl :: outer) (hideAll s.heap (news.map (·.1))) := by
  have nm : ∀ b o, h₀.get? b = some o → b ∉ news.map (·.1) := fun b o e q => by
    obtain ⟨p, hp, rfl⟩ := List.mem_map.mp q
    rw [(N p hp).2.2] at e; cases e
  have st : h₀.StaysIn (hideAll s.heap (news.map (·.1))) := fun b o e => hideAll_get _ (F.keep b o e) (nm b o e)
  obtain ⟨oL, es, ep, hL, hLd, hLk, hLf⟩ := F.ns
  have nL : L ∉ news.map (·.1) := fun q => by
    obtain ⟨p, hp, e⟩ := List.mem_map.mp q
    exact (N p hp).2.1 e
  have hLg := hideAll_get (news.map (·.1)) hL nL
  have B₁ := pushX (name := cn) (scope := cs) (a := a) (cd := ccd) (cl := cl) B F hck
  refine ⟨oL, es, ep, hLg, hLd, fun h' e => ⟨oL, es, ep, e, hLd, hLk, hLf⟩, fun sl h' e => ⟨_, es, ep, e, hLd, hLk, hLf⟩, st, hA, fun b o e => st b o (B.stays b o e), funFrames_hideAll B₁.frames fun env he b hb hf => ?_⟩
  cases he with
  | head => exact nL ((Option.some.inj hf : L = b) ▸ hb)
  | tail _ he =>
    obtain ⟨L₁, o₁, hf₁, ho₁⟩ := funFrames_in B.frames env he
    rw [hf₁] at hf
    exact nm L₁ o₁ ho₁ ((Option.some.inj hf : L₁ = b) ▸ hb)
/-- a def called from the outermost frame, which may bear cells; the def may have caught -/
theorem code_askX (B : Below A₀ base [] h₀) (F : Fr h₀ L s.heap m) (X₀ : K.In h₀) (N : News h₀ L s.heap news) (T : Top p loose mean mg mb h₀) (hA : A.frames = some [envX cn cs L a ccd cl])
    (ho : K.lookup f = some ⟨oc, od, .func (fnOf name qual params body scope dV kV doc pm an cdv ct), osl⟩) (hcd : codeIn K cdv qual = true) (hroom : A.depth < recursionLimit)
    (hbind : BindsTo s (fnOf name qual params body scope dV kV doc pm an cdv ct) args binds) (hloc : ∀ y ∈ binds, scope.names.lookup y.1 = some .local)
    (h : ∀ g L' h₁, Fr h₀ L g m → Fr g L' h₁ (fun y => binds.reverse.lookup y) → News g L' h₁ news → Below A base [envX cn cs L a ccd cl] g → K.In g → Top p loose mean mg mb g → KtsDicts ([envX cn cs L a ccd cl].filterMap (·.frame)) g →
      wpAny (model prog w) (A.deeper (envOf qual scope L' f cdv)) (execs body (envOf qual scope L' f cdv))
        (fun fl s' => LeaveS0 ([envX cn cs L a ccd cl].filterMap (·.frame)) h₀ L m g R (match fl with | .ret v => v | _ => .none) s')
        (fun e s' => wpAny (model prog w) (A.deeper (envOf qual scope L' f cdv)) (leaving (envOf qual scope L' f cdv) e) (fun _ s'' => R (.error e) s'') (fun e' s'' => R (.error e') s'') s')
        { s with heap := h₁, toks := s.toks + binds.length })
    (hck : cs.kind = .function) (hco : scope.isCoroutine = false) (hgen : scope.isGenerator = false) (hk : scope.kind = .function)
    (hcell : ∀ x ∈ scope.names, x.2 ≠ .cell) : codeAny (model prog w) A (.call (.ref f) args) R s := by
  have X := X₀.keeps F.keep
  refine codeAny_call_def (fd := fnOf name qual params body scope dV kV doc pm an cdv ct) (body := body) (binds := binds) hroom (X _ _ ho) rfl (T.nolimit.keeps F.keep) (codeRec_of X hcd) rfl hbind hcell hloc (fun h₁ hns hk₁ => ?_) hco hgen hk
  obtain ⟨oL, es, ep, hLg, hLd, hN, hNs, st, B₂⟩ := ask_enter B F N hA hck
  have only : ∀ b ∈ [envX cn cs L a ccd cl].filterMap (·.frame), b = L := fun b hb => (memX hb).elim id fun z => by simp at z
  refine wpAny_mono (h _ s.heap.objs.size h₁ ⟨hN _ hLg, st, F.above⟩ ⟨hns, fun b o e => hk₁ b o (of_hideAll _ e), Nat.le_of_eq (hideAll_size _ _)⟩
    (fun p hp => ⟨hk₁ _ _ (N p hp).1, Nat.ne_of_lt (Heap.lt_size (N p hp).1), hideAll_none _ (List.mem_map_of_mem hp)⟩) B₂ (X₀.keeps st) (T.keeps st) (fun b hb => by
      rw [only b hb]; exact ⟨oL, es, ep, hLg, hLd⟩)) (fun fl s' hl => ?_) fun _ _ y => y
  obtain ⟨g', L', m', news', T', F', N', k⟩ := hl
  have nL₀ : h₀.get? L = none := kts_self F
  obtain ⟨sl, hs⟩ := T'.up hLg
  refine k ⟨hNs sl _ (F'.keep _ _ hs), fun b o e => F'.keep b o (T'.other b o (st b o e) (fun q => by rw [only b q, nL₀] at e; cases e)), F.above⟩ fun p hp => ⟨(N' p hp).1, fun q => ?_, ?_⟩
  · have := (N' p hp).2.2; rw [q, hs] at this; cases this
  · cases q : h₀.get? p.1 with
    | none => rfl
    | some o =>
      obtain ⟨sl', hs'⟩ := T'.up (st _ _ q)
      have := (N' p hp).2.2
      rw [hs'] at this
      cases this
end
/-! part C11 -/
theorem offC11 : True := by
  w_top off
  trivial
theorem sub_VI : isSubtype (.type "ValueError") (.type "IndexError") = pure false := by rw [isSubtype_type]; kernel_rfl
section
variable {prog : Program} {w : World} {A₀ : Around} {E : Value → Shared → Prop} {s' : Shared} {base g g₀ G : Heap} {outer : List Env} {L a e : Addr} {m : Str → Option Value} {name : Str} {scope : Scope} {cd : Value}
  {b₀ b₁ : Stmt} {suite suite₁ : List Stmt} {pos np pos₁ np₁ : Pos} {rest : List ExceptHandler} {Q : Flow → Shared → Prop} {news : List (Addr × Obj)} {KF : Frag}
  {p : Program} {loose : List Str} {mean : ExcName → Option Value} {mg mb : Str → Option Value}
/-- a ValueError goes by the clause of the IndexErrors and is caught by the second one -/
theorem caught_V (R : RaisedSN base G (envOf name scope L a cd :: outer) e (.type "ValueError") news s'.heap) (F : Fr g L G m) (K : Below A₀ base outer g) (hsm : G.UpToSlots s'.heap) (XB : KF.In base) (TB : Top p loose mean mg mb base)
    (D : KtsDicts (outer.filterMap (·.frame)) g) (T0 : KtsTurn (outer.filterMap (·.frame)) g₀ g)
    (ex : nsIn KF mainGlobals "ValueError" = some none) (ex₁ : nsIn KF mainGlobals "IndexError" = some none)
    (k : ∀ h' g', KtsTurn (outer.filterMap (·.frame)) g₀ g' → Fr g' L h' m → News g' L h' news → Below A₀ base outer g' → KF.In g' → Top p loose mean mg mb g' → KtsDicts (outer.filterMap (·.frame)) g' →
      wpAny (model prog w) ((A₀.deeper (envOf name scope L a cd)).mark (some (.ref e))) (execs (b₀ :: suite) (envOf name scope L a cd)) Q E { s' with heap := h' })
    (hk : scope.kind = .function := by rfl) (hx : (envOf name scope L a cd).kindOf "ValueError" = some .globalImplicit := by rfl) (hx₁ : (envOf name scope L a cd).kindOf "IndexError" = some .globalImplicit := by rfl)
    (hE : PassesOwnAt (model prog w) ((A₀.deeper (envOf name scope L a cd)).mark (some (.ref e))) (A₀.deeper (envOf name scope L a cd)) (envOf name scope L a cd) E := by passes_own) :
    wpAny (model prog w) (A₀.deeper (envOf name scope L a cd)) (noteFrame (.ref e) (envOf name scope L a cd))
      (fun _ s₂ => wpAny (model prog w) (A₀.deeper (envOf name scope L a cd)) (setFlight (.ref e) none) (fun _ s₃ =>
        wpAny (model prog w) (A₀.deeper (envOf name scope L a cd)) (handleBy (.ref e) (envOf name scope L a cd) (.ExceptHandler (some (.Name "IndexError" np₁)) none (b₁ :: suite₁) pos₁ :: .ExceptHandler (some (.Name "ValueError" np)) none (b₀ :: suite) pos :: rest)) Q E s₃) E s₂) E s' := by
  obtain ⟨B, a0, hB, hBG, hl, hfl⟩ := R
  have hL : B.get? L = none := by
    obtain ⟨_, ⟨L', _, hf, hn', _⟩, _⟩ := hfl.2.2.1
    obtain rfl : L = L' := Option.some.inj hf
    exact hn'
  refine wpAny_looks_onW (Around.frames_deeper K.stack) rfl hfl fun h₄ hheld₄ hsm₄ => ?_
  refine wpAny_landsW hheld₄ fun h₅ hheld hsm₅' => ?_
  have hsm₅ := hsm₄.trans hsm₅'
  obtain ⟨g₅, T₅, F₅, K₅⟩ := kts_ground K F hBG hheld.1 (hsm.trans hsm₅)
  have X₅ : KF.In g₅ := XB.keeps K₅.stays
  have P₅ : TopRead p loose mg mb g₅ := topRead_of (TB.keeps K₅.stays)
  obtain ⟨ob, hob, hobc⟩ := hheld.there
  refine wpAny_handleBy_builtin (X := "ValueError") (T := "IndexError") (b := false) PySem.F.isExc_IndexError PySem.F.notTuple_IndexError sub_VI (name_B F₅ X₅ P₅ ex₁ PyProof.Rows.Boot.«IndexError» (by decide) ⟨rfl, ⟨ob, hob, hobc⟩, ?_⟩ hk hx₁ (by decide))
  refine wpAny_handleBy_builtin (X := "ValueError") (T := "ValueError") (b := true) PySem.F.isExc_ValueError PySem.F.notTuple_ValueError PySem.F.self_ValueError (name_B F₅ X₅ P₅ ex PyProof.Rows.Boot.«ValueError» (by decide) ⟨rfl, ⟨ob, hob, hobc⟩, ?_⟩ hk hx (by decide))
  refine lands_againW hheld fun h₆ hfl₆ hsm₆ => ?_
  obtain ⟨g₆, T₆, F₆, K₆⟩ := kts_ground K F hBG hfl₆.1 ((hsm.trans hsm₅).trans hsm₆)
  have Nl : News g₆ L h₆ news := fun q hq => ⟨hfl₆.1 _ _ (hl q hq).1, (fun z => by have := (hl q hq).1; rw [z, hL] at this; cases this), T₆.none_ _ (kts_none F.keep (hl q hq).2.1)⟩
  exact wpAny_passesOwnAt hE (k h₆ g₆ (T0.trans T₆) F₆ Nl K₆ (XB.keeps K₆.stays) (TB.keeps K₆.stays) (D.turn T₆))
end
theorem led_tz {h₀ h : Heap} {L T H : Addr} {x y a b : Obj} {news : List (Addr × Obj)} (N : News h₀ L h ((130, x) :: (109, y) :: (T, a) :: (H, b) :: news)) : News h₀ L h ((109, y) :: (T, a) :: (130, x) :: (T, a) :: (H, b) :: news) :=
  cb_drop N (sub_cons (by k_mem) (sub_cons (by k_mem) (sub_cons (by k_mem) fun q hq => .tail _ (.tail _ hq))))
theorem led_tz' {h₀ h : Heap} {L T H : Addr} {x y a b : Obj} {news : List (Addr × Obj)} (N : News h₀ L h ((109, y) :: (130, x) :: (T, a) :: (H, b) :: news)) : News h₀ L h ((130, x) :: (109, y) :: (T, a) :: (H, b) :: news) :=
  cb_drop N (sub_cons (by k_mem) (sub_cons (by k_mem) fun q hq => .tail _ (.tail _ hq)))
theorem led_th {h₀ h : Heap} {L T H : Addr} {x y a b : Obj} {news : List (Addr × Obj)} (N : News h₀ L h ((130, x) :: (109, y) :: (T, a) :: (H, b) :: news)) : News h₀ L h ((130, x) :: (109, y) :: (T, a) :: (H, b) :: (T, a) :: (H, b) :: news) :=
  cb_drop N (sub_cons (by k_mem) (sub_cons (by k_mem) (sub_cons (by k_mem) (sub_cons (by k_mem) fun q hq => .tail _ (.tail _ hq)))))
local macro_rules | `(tactic| walk_at "noteFrame ref") => `(tactic| (k_here; (with_reducible show wpAny _ _ (noteFrame _ _) (fun _ s₂ => wpAny _ _ (setFlight _ none) (fun _ s₃ => wpAny _ _ (handleBy _ _ (ExceptHandler.ExceptHandler (some (Expr.Name ("IndexError" : Str) _)) none _ _ :: ExceptHandler.ExceptHandler (some (Expr.Name ("ValueError" : Str) _)) none _ _ :: _)) _ _ s₃) _ s₂) _ _); (rename Rz _ _ _ _ "ValueError" _ _ => rsX); k_dflt (refine' caught_V rsX.1 ?F ?K rsX.2 ?XB ?TB ?D ?T0 ?ex ?ex1 ?_; (case F => assumption); (case K => assumption); (case XB => assumption); (case TB => assumption); (case D => assumption); (case T0 => first | assumption | exact KtsTurn.refl); (case ex => k_is); (case ex1 => k_is); k_whole); intro h' g' T' F' N' K' X' P' D'; (try k_lift K'); (try k_sweep)))
local macro_rules | `(tactic| walk_at "noteFrame ref") => `(tactic| (k_here; (with_reducible show wpAny _ _ (noteFrame _ _) (fun _ s₂ => wpAny _ _ (setFlight _ none) (fun _ s₃ => wpAny _ _ (handleBy _ _ (ExceptHandler.ExceptHandler (some (Expr.Name ("IndexError" : Str) _)) none _ _ :: ExceptHandler.ExceptHandler (some (Expr.Name ("ValueError" : Str) _)) none _ _ :: _)) _ _ s₃) _ s₂) _ _); (rename Rz _ _ _ _ "IndexError" _ _ => rsX); k_dflt (refine' caught_SN0 (T' := "IndexError") rsX.1 ?F ?K rsX.2 ?XB ?TB ?D ?T0 ?ex PyProof.Rows.Boot.«IndexError» ?hn PySem.F.isExc_IndexError PySem.F.notTuple_IndexError ?hs ?_; (case F => assumption); (case K => assumption); (case XB => assumption); (case TB => assumption); (case D => assumption); (case T0 => first | assumption | exact KtsTurn.refl); (case hs => kts_sub); (case ex => k_is); (case hn => decide); k_whole); intro h' g' T' F' N' K' X' P' D'; (try k_lift K'); (try k_sweep)))
local macro_rules | `(tactic| walk_at "call ref") => `(tactic| (k_here; (with_reducible show wpAny _ _ (call (Value.ref 128) [Value.ref _, Value.float _ _]) _ _ _); k_dflt (refine' next_tz_c (Cx.mk ?cB ?cF ?cX ?cN ?cT ?ck ?cXB ?cTB ?cd ?cu) ?hT ?hdis ?htr ?hG ?hx ?hz ?hm ?_ ?_ ?_; (case cN => exact led_tz (by assumption)); (case cB => k_asm); (case cF => k_asm); (case cX => k_asm); (case cT => k_asm); (case ck => first | exact rfl | assumption); (case cXB => assumption); (case cTB => assumption); (case cd => ktr_room); (case cu => ktr_units); (case hT => assumption); (case hdis => (((try simp only [List.eraseIdx_cons_zero, List.eraseIdx_cons_succ]); repeat' (first | (with_reducible assumption) | (refine List.forall_mem_cons.mpr ⟨?_, ?_⟩) | (intro q hq; cases hq; done) | (show @Ne Nat _ _; (try dsimp only); omega))))); (case htr => assumption); (case hG => assumption); (case hx => first | with_reducible assumption | exact HV.epoch | exact HV.half); (case hz => omega); (case hm => assumption); k_whole)))
local macro_rules | `(tactic| walk_at "call ref") => `(tactic| (k_here; (with_reducible show wpAny _ _ (call (Value.ref 121) [Value.str _ _, Value.float _ _]) _ _ _); k_dflt (refine' next_haab_c (Cx.mk ?cB ?cF ?cX ?cN ?cT ?ck ?cXB ?cTB ?cd ?cu) ?hx ?hz ?hm ?_ ?_ ?_; (case cN => k_asm); (case cB => k_asm); (case cF => k_asm); (case cX => k_asm); (case cT => k_asm); (case ck => first | exact rfl | assumption); (case cXB => assumption); (case cTB => assumption); (case cd => ktr_room); (case cu => ktr_units); (case hx => first | with_reducible assumption | exact HV.epoch | exact HV.half); (case hz => omega); (case hm => assumption); k_whole)))
local macro_rules | `(tactic| walk_at "call ref") => `(tactic| (k_here; (with_reducible show wpAny _ _ (call (Value.ref 135) [Value.ref _, Value.ref _, Value.float _ _]) _ _ _); k_dflt (refine' nth_c (Cx.mk ?cB ?cF ?cX ?cN ?cT ?ck ?cXB ?cTB ?cd ?cu) ?hT ?hH ?hT1 ?hH1 ?hdis ?hdis1 ?htr ?htr1 ?hG ?hx ?hz ?hm ?hm1 ?_ ?_ ?_; (case cN => exact led_th (by assumption)); (case cB => k_asm); (case cF => k_asm); (case cX => k_asm); (case cT => k_asm); (case ck => first | exact rfl | assumption); (case cXB => assumption); (case cTB => assumption); (case cd => ktr_room); (case cu => ktr_units); (case hT => assumption); (case hT1 => assumption); (case hH => assumption); (case hH1 => assumption); (case hdis => (((try simp only [List.eraseIdx_cons_zero, List.eraseIdx_cons_succ]); repeat' (first | (with_reducible assumption) | (refine List.forall_mem_cons.mpr ⟨?_, ?_⟩) | (intro q hq; cases hq; done) | (show @Ne Nat _ _; (try dsimp only); omega))))); (case hdis1 => (((try simp only [List.eraseIdx_cons_zero, List.eraseIdx_cons_succ]); repeat' (first | (with_reducible assumption) | (refine List.forall_mem_cons.mpr ⟨?_, ?_⟩) | (intro q hq; cases hq; done) | (show @Ne Nat _ _; (try dsimp only); omega))))); (case htr => assumption); (case htr1 => assumption); (case hG => assumption); (case hx => first | with_reducible assumption | exact HV.epoch | exact HV.half); (case hz => omega); (case hm => assumption); (case hm1 => assumption); k_whole)))
local macro_rules | `(tactic| walk_at "call ref") => `(tactic| (k_here; (with_reducible show wpAny _ _ (call (Value.ref 65) [Value.float _ _]) _ _ _); k_dflt (refine' from_neg_c (Cx.mk ?cB ?cF ?cX ?cN ?cT ?ck ?cXB ?cTB ?cd ?cu) ?hx ?hz ?_; (case cN => k_asm); (case cB => k_asm); (case cF => k_asm); (case cX => k_asm); (case cT => k_asm); (case ck => first | exact rfl | assumption); (case cXB => assumption); (case cTB => assumption); (case cd => ktr_room); (case cu => ktr_units); (case hx => first | with_reducible assumption | exact HV.epoch | exact HV.half); (case hz => omega); k_whole)))
section
variable {w : World} {dp un : Nat} {gd : Option (List Code)} {cn : Str} {cs : Scope} {a : Addr} {ccd : Value} {cl : List (Str × Addr)} {outer : List Env} {A₀ : Around} {base h₀ : Heap} {L : Addr} {m mg mb : Str → Option Value} {mean : ExcName → Option Value} {s : Shared} {Q E : Value → Shared → Prop} {news : List (Addr × Obj)}
set_option maxRecDepth 100000 in
set_option maxHeartbeats 1000000 in
theorem asked0_c {ps qs : Array Value} {Tn Hn : Addr} {day ni hday mi : Int} {nm mo : Str} {t0 t1 t2 t3 t4 t5 : Tok} {x : UInt64} {z : Int} (C : Cx w A₀ base h₀ [] L m mg mb mean s ((130, tabObj qs) :: (109, tabObj ps) :: (Tn, tup [.int day t1, .str nm t2]) :: (Hn, tup [.int hday t3, .str mo t4]) :: news) cs dp un 8)
    (hT : Tn ≠ 109) (hT' : Tn ≠ 130) (hH : Hn ≠ 109) (hH' : Hn ≠ 130) (hdis : ∀ q ∈ news, q.1 ≠ 109) (hdis' : ∀ q ∈ news, q.1 ≠ 130) (htr : TriplesOk ps.toList) (htr' : TriplesOk qs.toList) (G : AllBare s.gens) (hx : HV x z) (hz : z % 2 = 1 ∧ -2 ^ 30 ≤ z ∧ z < 2 ^ 29)
    (hm : (0 ≤ ni ∧ ni < 20 ∧ nm = nameAt ni) ∨ (ni = -1 ∧ nm = "Nobody"))
    (ret : ∀ y c tk h' gs d tk' ps', 1168565 ≤ z → 1 ≤ day ∧ day ≤ 13 → 0 ≤ ni → (∃ k, c = z + 2 * k ∧ 0 ≤ k ∧ k < 260 ∧ (z / 2 - 584282 + k + 4) % 13 = day % 13 ∧ (z / 2 - 584282 + k) % 20 = (ni + 1) % 20) → HV y c → TriplesOk ps'.toList → AllBare gs → Fr h₀ L h' m → News h₀ L h' ((130, tabObj qs) :: (109, tabObj ps') :: (Tn, tup [.int day t1, .str nm t2]) :: (Hn, tup [.int hday t3, .str mo t4]) :: news) →
      Q (.float y tk) { s with heap := h', gens := gs, drawn := d, toks := tk' })
    (rI : ∀ tk h' gs d tk' ps', z < 1168565 ∨ ¬ (1 ≤ day ∧ day ≤ 13) → TriplesOk ps'.toList → AllBare gs → Fr h₀ L h' m → News h₀ L h' ((130, tabObj qs) :: (109, tabObj ps') :: (Tn, tup [.int day t1, .str nm t2]) :: (Hn, tup [.int hday t3, .str mo t4]) :: news) → Q (.str "IndexError" tk) { s with heap := h', gens := gs, drawn := d, toks := tk' })
    (rV : ∀ tk h' gs d tk' ps', 1168565 ≤ z → ni = -1 → TriplesOk ps'.toList → AllBare gs → Fr h₀ L h' m → News h₀ L h' ((130, tabObj qs) :: (109, tabObj ps') :: (Tn, tup [.int day t1, .str nm t2]) :: (Hn, tup [.int hday t3, .str mo t4]) :: news) → Q (.str "ValueError" tk) { s with heap := h', gens := gs, drawn := d, toks := tk' }) :
    wpAny (model Challenge.rw_ak5005_01.row.prog w) (ktrTop dp un gd cn cs L a ccd cl []) (call (.ref 156) [.int 0 t0, .ref Tn, .ref Hn, .float x t5]) Q E s := by
  obtain ⟨B, F, X, N, T, hk, XB, TB, hdp, hun⟩ := C
  revert X; k_fill; intro X
  refine wpAny_call ?_
  k_dflt (refine' code_askX ?k1 ?k2 ?k3 ?k4 ?k5 ?kA ?k6 ?k7 ?k8 ?k9 ?kB ?_ ?cK ?c2 ?c3 ?c4 ?c5; (case kA => exact rfl); (case k2 => k_asm); (case k1 => k_asm); (case k3 => k_asm); (case k4 => k_asm); (case k5 => k_asm); (case k6 => k_is); (case k7 => k_is); (case k8 => ktr_room); (case k9 => exact BindsTo.of_eq rfl); (case kB => exact locs rfl); (case cK => assumption); (case c2 => exact rfl); (case c3 => exact rfl); (case c4 => exact rfl); (case c5 => decide); k_whole)
  intro g' L' h' FG' F' N' B' X' T' D'
  try dsimp only
  try k_lift B'
  try k_fold
  k_steps
  all_goals first
    | (refine' ret _ _ _ _ _ _ _ _ ?g1 ?g2 ?g3 ?g4 ?g5 ?g6 ?g7 ?g8 ?g9; (case g9 => exact led_tz' (by assumption)); (case g1 => assumption); (case g2 => assumption); (case g3 => assumption); (case g4 => assumption); (case g5 => assumption); (case g6 => assumption); (case g7 => assumption); (case g8 => assumption))
    | (refine' rI _ _ _ _ _ _ ?g1 ?g6 ?g7 ?g8 ?g9; (case g9 => exact led_tz' (by assumption)); (case g1 => assumption); (case g6 => assumption); (case g7 => assumption); (case g8 => assumption))
    | (refine' rV _ _ _ _ _ _ ?g1 ?g2 ?g6 ?g7 ?g8 ?g9; (case g9 => exact led_tz' (by assumption)); (case g1 => assumption); (case g2 => assumption); (case g6 => assumption); (case g7 => assumption); (case g8 => assumption))
set_option maxRecDepth 100000 in
set_option maxHeartbeats 1000000 in
theorem asked1_c {ps qs : Array Value} {Tn Hn : Addr} {day ni hday mi : Int} {nm mo : Str} {t0 t1 t2 t3 t4 t5 : Tok} {x : UInt64} {z : Int} (C : Cx w A₀ base h₀ [] L m mg mb mean s ((130, tabObj qs) :: (109, tabObj ps) :: (Tn, tup [.int day t1, .str nm t2]) :: (Hn, tup [.int hday t3, .str mo t4]) :: news) cs dp un 8)
    (hx : HV x z) (hz : z % 2 = 1 ∧ -2 ^ 30 ≤ z ∧ z < 2 ^ 29)
    (hm' : (0 ≤ mi ∧ mi < 19 ∧ mo = moonAt mi) ∨ (mi = -1 ∧ mo = "Nobody"))
    (ret : ∀ y c p tk h' tk', HV y c → 1168565 ≤ z → 0 ≤ mi → p = (z / 2 - 584282 + 348) % 365 → (p / 20 ≠ mi ∨ p % 20 < 2 → c = z + 2 * ((20 * mi + 1 - p) % 365)) → Fr h₀ L h' m → News h₀ L h' ((130, tabObj qs) :: (109, tabObj ps) :: (Tn, tup [.int day t1, .str nm t2]) :: (Hn, tup [.int hday t3, .str mo t4]) :: news) → Q (.float y tk) { s with heap := h', toks := tk' })
    (rI : ∀ tk h' tk', z < 1168565 → Fr h₀ L h' m → News h₀ L h' ((130, tabObj qs) :: (109, tabObj ps) :: (Tn, tup [.int day t1, .str nm t2]) :: (Hn, tup [.int hday t3, .str mo t4]) :: news) → Q (.str "IndexError" tk) { s with heap := h', toks := tk' })
    (rV : ∀ tk h' tk', 1168565 ≤ z → mi = -1 → Fr h₀ L h' m → News h₀ L h' ((130, tabObj qs) :: (109, tabObj ps) :: (Tn, tup [.int day t1, .str nm t2]) :: (Hn, tup [.int hday t3, .str mo t4]) :: news) → Q (.str "ValueError" tk) { s with heap := h', toks := tk' }) :
    wpAny (model Challenge.rw_ak5005_01.row.prog w) (ktrTop dp un gd cn cs L a ccd cl []) (call (.ref 156) [.int 1 t0, .ref Tn, .ref Hn, .float x t5]) Q E s := by
  obtain ⟨B, F, X, N, T, hk, XB, TB, hdp, hun⟩ := C
  revert X; k_fill; intro X
  refine wpAny_call ?_
  k_dflt (refine' code_askX ?k1 ?k2 ?k3 ?k4 ?k5 ?kA ?k6 ?k7 ?k8 ?k9 ?kB ?_ ?cK ?c2 ?c3 ?c4 ?c5; (case kA => exact rfl); (case k2 => k_asm); (case k1 => k_asm); (case k3 => k_asm); (case k4 => k_asm); (case k5 => k_asm); (case k6 => k_is); (case k7 => k_is); (case k8 => ktr_room); (case k9 => exact BindsTo.of_eq rfl); (case kB => exact locs rfl); (case cK => assumption); (case c2 => exact rfl); (case c3 => exact rfl); (case c4 => exact rfl); (case c5 => decide); k_whole)
  intro g' L' h' FG' F' N' B' X' T' D'
  try dsimp only
  try k_lift B'
  try k_fold
  k_steps
  all_goals first
    | (refine' ret _ _ _ _ _ _ ?g1 ?g2 ?g3 ?g4 ?g5 ?g8 ?g9; (case g9 => assumption); (case g1 => assumption); (case g2 => assumption); (case g3 => assumption); (case g4 => assumption); (case g5 => assumption); (case g8 => assumption))
    | (refine' rI _ _ _ ?g1 ?g8 ?g9; (case g9 => assumption); (case g1 => assumption); (case g8 => assumption))
    | (refine' rV _ _ _ ?g1 ?g2 ?g8 ?g9; (case g9 => assumption); (case g1 => assumption); (case g2 => assumption); (case g8 => assumption))
set_option maxRecDepth 100000 in
set_option maxHeartbeats 1000000 in
theorem asked2_c {ps qs : Array Value} {Tn Hn : Addr} {day ni hday mi : Int} {nm mo : Str} {t0 t1 t2 t3 t4 t5 : Tok} {x : UInt64} {z : Int} (C : Cx w A₀ base h₀ [] L m mg mb mean s ((130, tabObj qs) :: (109, tabObj ps) :: (Tn, tup [.int day t1, .str nm t2]) :: (Hn, tup [.int hday t3, .str mo t4]) :: news) cs dp un 8)
    (hT : Tn ≠ 109) (hT' : Tn ≠ 130) (hH : Hn ≠ 109) (hH' : Hn ≠ 130) (hdis : ∀ q ∈ news, q.1 ≠ 109) (hdis' : ∀ q ∈ news, q.1 ≠ 130) (htr : TriplesOk ps.toList) (htr' : TriplesOk qs.toList) (G : AllBare s.gens) (hx : HV x z) (hz : z % 2 = 1 ∧ 1168565 ≤ z ∧ z < 2 ^ 29)
    (hm : (0 ≤ ni ∧ ni < 20 ∧ nm = nameAt ni) ∨ (ni = -1 ∧ nm = "Nobody")) (hm' : (0 ≤ mi ∧ mi < 19 ∧ mo = moonAt mi) ∨ (mi = -1 ∧ mo = "Nobody"))
    (ret : ∀ y c tk h' gs d tk' ps' qs', 1 ≤ day ∧ day ≤ 13 → 0 ≤ ni → 0 ≤ hday ∧ hday < 20 → 0 ≤ mi → (∃ k, c = z + 2 * k ∧ 0 ≤ k ∧ k < 18980 ∧ (z / 2 - 584282 + k + 4) % 13 = day % 13 ∧ (z / 2 - 584282 + k) % 20 = (ni + 1) % 20 ∧ (z / 2 - 584282 + 348 + k) % 365 = (20 * mi + hday) % 365) →
      HV y c → TriplesOk ps'.toList → TriplesOk qs'.toList → AllBare gs → Fr h₀ L h' m → News h₀ L h' ((130, tabObj qs') :: (109, tabObj ps') :: (Tn, tup [.int day t1, .str nm t2]) :: (Hn, tup [.int hday t3, .str mo t4]) :: news) → Q (.float y tk) { s with heap := h', gens := gs, drawn := d, toks := tk' })
    (rI : ∀ tk h' gs d tk' ps' qs', (¬ (1 ≤ day ∧ day ≤ 13) ∨ ¬ (0 ≤ hday ∧ hday < 20) ∨ (0 ≤ ni ∧ 0 ≤ mi ∧ ∀ k, 0 ≤ k ∧ k < 18980 → (z / 2 - 584282 + k + 4) % 13 = day % 13 → (z / 2 - 584282 + k) % 20 = (ni + 1) % 20 → (z / 2 - 584282 + 348 + k) % 365 = (20 * mi + hday) % 365 → False)) →
      TriplesOk ps'.toList → TriplesOk qs'.toList → AllBare gs → Fr h₀ L h' m → News h₀ L h' ((130, tabObj qs') :: (109, tabObj ps') :: (Tn, tup [.int day t1, .str nm t2]) :: (Hn, tup [.int hday t3, .str mo t4]) :: news) → Q (.str "IndexError" tk) { s with heap := h', gens := gs, drawn := d, toks := tk' })
    (rV : ∀ tk h' gs d tk' ps' qs', ni = -1 ∨ mi = -1 → TriplesOk ps'.toList → TriplesOk qs'.toList → AllBare gs → Fr h₀ L h' m → News h₀ L h' ((130, tabObj qs') :: (109, tabObj ps') :: (Tn, tup [.int day t1, .str nm t2]) :: (Hn, tup [.int hday t3, .str mo t4]) :: news) → Q (.str "ValueError" tk) { s with heap := h', gens := gs, drawn := d, toks := tk' }) :
    wpAny (model Challenge.rw_ak5005_01.row.prog w) (ktrTop dp un gd cn cs L a ccd cl []) (call (.ref 156) [.int 2 t0, .ref Tn, .ref Hn, .float x t5]) Q E s := by
  obtain ⟨B, F, X, N, T, hk, XB, TB, hdp, hun⟩ := C
  revert X; k_fill; intro X
  refine wpAny_call ?_
  k_dflt (refine' code_askX ?k1 ?k2 ?k3 ?k4 ?k5 ?kA ?k6 ?k7 ?k8 ?k9 ?kB ?_ ?cK ?c2 ?c3 ?c4 ?c5; (case kA => exact rfl); (case k2 => k_asm); (case k1 => k_asm); (case k3 => k_asm); (case k4 => k_asm); (case k5 => k_asm); (case k6 => k_is); (case k7 => k_is); (case k8 => ktr_room); (case k9 => exact BindsTo.of_eq rfl); (case kB => exact locs rfl); (case cK => assumption); (case c2 => exact rfl); (case c3 => exact rfl); (case c4 => exact rfl); (case c5 => decide); k_whole)
  intro g' L' h' FG' F' N' B' X' T' D'
  try dsimp only
  try k_lift B'
  try k_fold
  k_steps
  all_goals first
    | (refine' ret _ _ _ _ _ _ _ _ _ ?g1 ?g2 ?g3 ?g4 ?g5 ?g6 ?g7 ?g7' ?g7'' ?g8 ?g9; (case g9 => assumption); (case g1 => assumption); (case g2 => assumption); (case g3 => assumption); (case g4 => assumption); (case g5 => assumption); (case g6 => assumption); (case g7 => assumption); (case g7' => assumption); (case g7'' => assumption); (case g8 => assumption))
    | (refine' rI _ _ _ _ _ _ _ ?g1 ?g6 ?g6' ?g7 ?g8 ?g9; (case g9 => assumption); (case g1 => assumption); (case g6 => assumption); (case g6' => assumption); (case g7 => assumption); (case g8 => assumption))
    | (refine' rV _ _ _ _ _ _ _ ?g1 ?g6 ?g6' ?g7 ?g8 ?g9; (case g9 => assumption); (case g1 => assumption); (case g6 => assumption); (case g6' => assumption); (case g7 => assumption); (case g8 => assumption))
set_option maxRecDepth 100000 in
set_option maxHeartbeats 1000000 in
theorem asked3_c {ps qs : Array Value} {Tn Hn : Addr} {day ni hday mi : Int} {nm mo : Str} {t0 t1 t2 t3 t4 t5 : Tok} {x : UInt64} {z : Int} (C : Cx w A₀ base h₀ [] L m mg mb mean s ((130, tabObj qs) :: (109, tabObj ps) :: (Tn, tup [.int day t1, .str nm t2]) :: (Hn, tup [.int hday t3, .str mo t4]) :: news) cs dp un 8)
    (hx : HV x z) (hz : -2 ^ 30 ≤ z ∧ z < 1168565)
    (rV : ∀ tk h' tk', Fr h₀ L h' m → News h₀ L h' ((130, tabObj qs) :: (109, tabObj ps) :: (Tn, tup [.int day t1, .str nm t2]) :: (Hn, tup [.int hday t3, .str mo t4]) :: news) → Q (.str "ValueError" tk) { s with heap := h', toks := tk' }) :
    wpAny (model Challenge.rw_ak5005_01.row.prog w) (ktrTop dp un gd cn cs L a ccd cl []) (call (.ref 156) [.int 3 t0, .ref Tn, .ref Hn, .float x t5]) Q E s := by
  obtain ⟨B, F, X, N, T, hk, XB, TB, hdp, hun⟩ := C
  revert X; k_fill; intro X
  refine wpAny_call ?_
  k_dflt (refine' code_askX ?k1 ?k2 ?k3 ?k4 ?k5 ?kA ?k6 ?k7 ?k8 ?k9 ?kB ?_ ?cK ?c2 ?c3 ?c4 ?c5; (case kA => exact rfl); (case k2 => k_asm); (case k1 => k_asm); (case k3 => k_asm); (case k4 => k_asm); (case k5 => k_asm); (case k6 => k_is); (case k7 => k_is); (case k8 => ktr_room); (case k9 => exact BindsTo.of_eq rfl); (case kB => exact locs rfl); (case cK => assumption); (case c2 => exact rfl); (case c3 => exact rfl); (case c4 => exact rfl); (case c5 => decide); k_whole)
  intro g' L' h' FG' F' N' B' X' T' D'
  try dsimp only
  try k_lift B'
  try k_fold
  k_steps
  all_goals exact rV _ _ _ (by assumption) (by assumption)
end
/-! part D1 -/
theorem offD1 : True := by
  w_top off
  trivial
/-- the law's own text, read off the row -/
def lawB : List Stmt := match Challenge.rw_ak5005_01.prog.main.body.getLast? with | some (.FunctionDef _ _ b _ _ _ _ _ _ _) => b | _ => []
def lawS : Scope := match Challenge.rw_ak5005_01.prog.main.body.getLast? with | some (.FunctionDef _ _ _ _ _ _ s _ _ _) => s | _ => default
abbrev lawE (L a : Addr) (cd : Value) : Env := envOfC "law" lawS L a cd
theorem lawB_len : lawB.length = 32 := rfl
theorem lawS_cells (L : Nat) : cellsFrom (L + 1) lawS.names [] = [(("names" : Str), L + 1 + 1), (("past" : Str), L + 1)] := rfl
/-! part R12 -/
theorem offR12 : True := by
  w_top off
  trivial
section
variable {prog : Program} {w : World} {A : Around} {E : Value → Shared → Prop} {s : Shared} {Q : Value → Shared → Prop} {h₀ : Heap} {L D : Addr} {m : Str → Option Value} {news : List (Addr × Obj)} {u : Tok} {k : Int} {vs : List Value} {c : Nat}
theorem r_item_nm {value slice : PySem.Expr} (N : News h₀ L s.heap news) (hm : (D, listOf vs.toArray c) ∈ news) (hv : StrsAre vs names20) (hk : 0 ≤ k ∧ k < 20) (h : ∀ t, Q (.str (nameAt k) t) s)
    (hs : subscripted slice false (.ref D) (.int k u) = operate [.ref D, .int k u] (getItem (.ref D) (.int k u)) := by with_unfolding_all rfl) :
    wpAny (model prog w) A (subscriptTail value slice (.ref D) (.int k u)) Q E s :=
  r_item_strs ⟨_, (N _ hm).1, rfl, _, rfl⟩ hv hk.1 (by show k < 20; exact hk.2) (by decide) h hs
theorem r_item_mo {value slice : PySem.Expr} (N : News h₀ L s.heap news) (hm : (D, listOf vs.toArray c) ∈ news) (hv : StrsAre vs moons) (hk : 0 ≤ k ∧ k < 19) (h : ∀ t, Q (.str (moonAt k) t) s)
    (hs : subscripted slice false (.ref D) (.int k u) = operate [.ref D, .int k u] (getItem (.ref D) (.int k u)) := by with_unfolding_all rfl) :
    wpAny (model prog w) A (subscriptTail value slice (.ref D) (.int k u)) Q E s :=
  r_item_strs ⟨_, (N _ hm).1, rfl, _, rfl⟩ hv hk.1 (by show k < 19; exact hk.2) (by decide) h hs
end
local macro_rules | `(tactic| walk_at "call ref") => `(tactic| (k_here; (with_reducible show wpAny _ _ (call (Value.ref 142) _) _ _ _); k_dflt (refine' names_c (Cx.mk ?cB ?cF ?cX ?cN ?cT ?ck ?cXB ?cTB ?cd ?cu) ?_; (case cB => k_asm); (case cF => k_asm); (case cX => k_asm); (case cN => k_asm); (case cT => k_asm); (case ck => first | exact rfl | assumption); (case cXB => assumption); (case cTB => assumption); (case cd => ktr_room); (case cu => ktr_units)); intro D' vs' c' h' tk' hs' F' N' l1; (try k_lt l1)))
local macro_rules | `(tactic| walk_at "call ref") => `(tactic| (k_here; (with_reducible show wpAny _ _ (call (Value.ref 149) _) _ _ _); k_dflt (refine' moons_c (Cx.mk ?cB ?cF ?cX ?cN ?cT ?ck ?cXB ?cTB ?cd ?cu) ?_; (case cB => k_asm); (case cF => k_asm); (case cX => k_asm); (case cN => k_asm); (case cT => k_asm); (case ck => first | exact rfl | assumption); (case cXB => assumption); (case cTB => assumption); (case cd => ktr_room); (case cu => ktr_units)); intro D' vs' c' h' tk' hs' F' N' l1; (try k_lt l1)))
local macro_rules | `(tactic| walk_at "subscriptTail") => `(tactic| (k_here; (with_reducible show wpAny _ _ (subscriptTail _ _ (Value.ref _) (Value.int _ _)) _ _ _); k_dflt (refine' r_item_nm ?k1 ?km ?k2 ?k3 ?_ ?k4; (case k1 => k_asm); (case km => k_mem); (case k2 => assumption); (case k3 => omega); (case k4 => with_unfolding_all rfl)); intro t'))
local macro_rules | `(tactic| walk_at "subscriptTail") => `(tactic| (k_here; (with_reducible show wpAny _ _ (subscriptTail _ _ (Value.ref _) (Value.int _ _)) _ _ _); k_dflt (refine' r_item_mo ?k1 ?km ?k2 ?k3 ?_ ?k4; (case k1 => k_asm); (case km => k_mem); (case k2 => assumption); (case k3 => omega); (case k4 => with_unfolding_all rfl)); intro t'))
/-! part L0 -/
theorem offL0 : True := by
  w_top off
  trivial
section
variable {prog : Program} {w : World} {A : Around} {E : Value → Shared → Prop} {s : Shared} {Q : Value → Shared → Prop} {t u : Tok} {a n : Int}
theorem r_mod_lit (hn : 0 < n) (h : Q (.int (a % n) s.toks) { s with toks := s.toks + 1 }) : wpAny (model prog w) A (binaryOp .Mod (.int a t) (.int n u)) Q E s :=
  mod_int' (by omega) (by rw [show Int.fmod a n = a % n from Int.fmod_eq_emod_of_nonneg a (Int.le_of_lt hn)]; exact h)
end
theorem five_ints {ws : List Value} {ms : List Int} (h : IntsAre ws ms) (hl : 5 ≤ ms.length) (hb : ∀ x ∈ ms, -10000000 < x ∧ x < 10000000) :
    ∃ x0 x1 x2 x3 x4 t0 t1 t2 t3 t4 vs', ws = .int x0 t0 :: .int x1 t1 :: .int x2 t2 :: .int x3 t3 :: .int x4 t4 :: vs' ∧ (-10000000 < x0 ∧ x0 < 10000000) ∧ (-10000000 < x1 ∧ x1 < 10000000) ∧ (-10000000 < x2 ∧ x2 < 10000000) ∧ (-10000000 < x3 ∧ x3 < 10000000) ∧ (-10000000 < x4 ∧ x4 < 10000000) := by
  match ms, hl with
  | x0 :: x1 :: x2 :: x3 :: x4 :: r, _ =>
    cases h with | cons _ _ h =>
    cases h with | cons _ _ h =>
    cases h with | cons _ _ h =>
    cases h with | cons _ _ h =>
    cases h with | cons _ _ h =>
    exact ⟨x0, x1, x2, x3, x4, _, _, _, _, _, _, rfl, hb _ (by simp), hb _ (by simp), hb _ (by simp), hb _ (by simp), hb _ (by simp)⟩
local macro_rules | `(tactic| walk_at "binaryOp Mod int int") => `(tactic| (k_here; (with_reducible show wpAny _ _ (binaryOp _ (Value.int _ _) (Value.int 10000000 _)) _ _ _); k_dflt (refine' r_mod_lit ?k1 ?_; (case k1 => decide))))
set_option maxRecDepth 100000 in
set_option maxHeartbeats 1000000 in
theorem seg0 {w : World} {base : Heap} {mg mb : Str → Option Value} {mean : ExcName → Option Value} {L a l : Addr} {cd : Value} {s : Shared} {Q : Flow → Shared → Prop} {E : Value → Shared → Prop} {rest : List Stmt} {vs : List Value} {ns : List Int} {oN oP : Obj}
    (X : (Mine.hd.heap_39 w.params).In base) (T : Top p0 loose0 mean mg mb base) (F : Fr base L s.heap (fun y => if y = "script" then some (.ref l) else none))
    (N : News base L s.heap [(L + 1 + 1, oN), (L + 1, oP), (109, tabObj #[]), (130, tabObj #[])]) (hN : oN.data = .cell none) (hP : oP.data = .cell none) (hl : base.IsList l vs.toArray) (hi : IntsAre vs ns) (hlen : ns.length ≤ 63)
    (k : ∀ h' tk' D vs' c x0 x1 x2 x3 x4 t0 t1 t2 t3 t4, (-10000000 < x0 ∧ x0 < 10000000) → (-10000000 < x1 ∧ x1 < 10000000) → (-10000000 < x2 ∧ x2 < 10000000) → (-10000000 < x3 ∧ x3 < 10000000) → (-10000000 < x4 ∧ x4 < 10000000) → @LT.lt Nat _ 130 D → Fr base L h' (fun y => if y = "numbers" then some (.ref D) else if y = "script" then some (.ref l) else none) →
      News base L h' [(D, listOf (.int x0 t0 :: .int x1 t1 :: .int x2 t2 :: .int x3 t3 :: .int x4 t4 :: vs').toArray c), (L + 1 + 1, oN), (L + 1, oP), (109, tabObj #[]), (130, tabObj #[])] →
      wpAny (model Challenge.rw_ak5005_01.row.prog w) (callerA.deeper (lawE L a cd)) (execs rest (lawE L a cd)) Q E { s with heap := h', toks := tk' }) :
    wpAny (model Challenge.rw_ak5005_01.row.prog w) (callerA.deeper (lawE L a cd)) (execs (lawB.take 1 ++ rest) (lawE L a cd)) Q E s := by
  have B : Below callerA base [] base := below_caller _
  revert X; k_fill; intro X
  have e : lawB = match Challenge.rw_ak5005_01.prog.main.body.getLast? with | some (.FunctionDef _ _ b _ _ _ _ _ _ _) => b | _ => [] := rfl
  dsimp only [Challenge.rw_ak5005_01, Challenge.pw_ak5005_01, List.getLast?, List.getLast] at e
  rw [e]
  clear e
  dsimp only [List.take, List.cons_append, List.nil_append]
  k_steps
  rename (IntsAre _ (_ ++ [0, 0, 0, 0, 0])) => hI
  obtain ⟨x0, x1, x2, x3, x4, t0, t1, t2, t3, t4, vs', rfl, b0, b1, b2, b3, b4⟩ := five_ints hI (by simp) (fun x hx => by
    rcases List.mem_append.mp hx with hx | hx
    · obtain ⟨y, _, rfl⟩ := List.mem_map.mp hx
      split
      · omega
      · split <;> omega
    · simp at hx; omega)
  refine k _ _ _ _ _ _ _ _ _ _ _ _ _ _ _ b0 b1 b2 b3 b4 ?g1 (by assumption) (cb_drop (by assumption) (sub_cons (by k_mem) fun q hq => by (repeat (first | exact hq | refine List.Mem.tail _ ?_))))
  omega
/-! part L1 -/
theorem offL1 : True := by
  w_top off
  trivial
section
variable {w : World} {base : Heap} {mg mb : Str → Option Value} {mean : ExcName → Option Value} {L a : Addr} {cd : Value} {s : Shared} {Q : Flow → Shared → Prop} {E : Value → Shared → Prop} {rest : List Stmt}
set_option maxRecDepth 100000 in
set_option maxHeartbeats 1000000 in
theorem seg1 {l D : Addr} {vs' : List Value} {c : Nat} {x0 x1 x2 x3 x4 : Int} {t0 t1 t2 t3 t4 : Tok} {oN oP : Obj}
    (X : (Mine.hd.heap_39 w.params).In base) (T : Top p0 loose0 mean mg mb base) (F : Fr base L s.heap (fun y => if y = "numbers" then some (.ref D) else if y = "script" then some (.ref l) else none))
    (N : News base L s.heap ((D, listOf (.int x0 t0 :: .int x1 t1 :: .int x2 t2 :: .int x3 t3 :: .int x4 t4 :: vs').toArray c) :: (L + 1 + 1, oN) :: (L + 1, oP) :: [(109, tabObj #[]), (130, tabObj #[])]))
    (hN : oN.data = .cell none) (hP : oP.data = .cell none) (b0 : -10000000 < x0 ∧ x0 < 10000000)
    (k : ∀ h' tk' oP' past t x z tx a9 ta b9 tb c9 tc d9 td, oP'.data = .cell (some (.int past t)) → 0 ≤ past ∧ past < 10000000 ∧ (past = x0 ∨ past = - x0) → HV x z → z = 1168565 + 2 * past → 0 ≤ a9 ∧ a9 < 28 → 0 ≤ b9 ∧ b9 < 41 → 0 ≤ c9 ∧ c9 < 42 → 0 ≤ d9 ∧ d9 < 39 →
      Fr base L h' (fun y => if y = "d" then some (.int d9 td) else if y = "c" then some (.int c9 tc) else if y = "b" then some (.int b9 tb) else if y = "a" then some (.int a9 ta) else if y = "number" then some (.float x tx) else if y = "numbers" then some (.ref D) else if y = "script" then some (.ref l) else none) →
      News base L h' ((D, listOf (.int x0 t0 :: .int x1 t1 :: .int x2 t2 :: .int x3 t3 :: .int x4 t4 :: vs').toArray c) :: (L + 1 + 1, oN) :: (L + 1, oP') :: [(109, tabObj #[]), (130, tabObj #[])]) →
      wpAny (model Challenge.rw_ak5005_01.row.prog w) (callerA.deeper (lawE L a cd)) (execs rest (lawE L a cd)) Q E { s with heap := h', toks := tk' }) :
    wpAny (model Challenge.rw_ak5005_01.row.prog w) (callerA.deeper (lawE L a cd)) (execs ((lawB.drop 1).take 6 ++ rest) (lawE L a cd)) Q E s := by
  (have B : Below callerA base [] base := below_caller _; revert X; k_fill; intro X; have e : lawB = (match Challenge.rw_ak5005_01.prog.main.body.getLast? with | some (.FunctionDef _ _ b _ _ _ _ _ _ _) => b | _ => []) := rfl; dsimp only [Challenge.rw_ak5005_01, Challenge.pw_ak5005_01, List.getLast?, List.getLast] at e; rw [e]; clear e; dsimp only [List.drop, List.take, List.cons_append, List.nil_append]); k_steps
  refine' k _ _ _ _ _ _ _ _ _ _ _ _ _ _ _ _ ?g1 ?g2 ?g3 ?g4 ?g5 ?g6 ?g7 ?g8 ?g9 ?g10
  case g9 => assumption
  case g1 => assumption
  case g10 => exact cb_drop (by assumption) (sub_cons (by k_mem) fun q hq => by (repeat (first | exact hq | refine List.Mem.tail _ ?_)))
  case g3 => assumption
  case g4 => assumption
  case g2 => split <;> omega
  case g5 => omega
  case g6 => omega
  case g7 => omega
  case g8 => omega
end
/-! part L2 -/
theorem offL2 : True := by
  w_top off
  trivial
theorem nm_in {k b : Int} (h : k = b % 20) : (0 ≤ k ∧ k < 20 ∧ nameAt k = nameAt k) ∨ (k = -1 ∧ nameAt k = "Nobody") := .inl ⟨by omega, by omega, rfl⟩
theorem nm_no : (0 ≤ (-1 : Int) ∧ (-1 : Int) < 20 ∧ ("Nobody" : Str) = nameAt (-1)) ∨ ((-1 : Int) = -1 ∧ ("Nobody" : Str) = "Nobody") := .inr ⟨rfl, rfl⟩
theorem mo_in {k b : Int} (h : k = b % 19) : (0 ≤ k ∧ k < 19 ∧ moonAt k = moonAt k) ∨ (k = -1 ∧ moonAt k = "Nobody") := .inl ⟨by omega, by omega, rfl⟩
theorem mo_no : (0 ≤ (-1 : Int) ∧ (-1 : Int) < 19 ∧ ("Nobody" : Str) = moonAt (-1)) ∨ ((-1 : Int) = -1 ∧ ("Nobody" : Str) = "Nobody") := .inr ⟨rfl, rfl⟩
section
variable {w : World} {base : Heap} {mg mb : Str → Option Value} {mean : ExcName → Option Value} {L a : Addr} {cd : Value} {s : Shared} {Q : Flow → Shared → Prop} {E : Value → Shared → Prop} {rest : List Stmt}
set_option maxRecDepth 100000 in
set_option maxHeartbeats 1000000 in
theorem seg2 {l D : Addr} {vs : List Value} {c : Nat} {a9 b9 c9 d9 : Int} {ta tb tc td tx : Tok} {x : UInt64} {oN oP : Obj}
    (X : (Mine.hd.heap_39 w.params).In base) (T : Top p0 loose0 mean mg mb base) (F : Fr base L s.heap (fun y => if y = "d" then some (.int d9 td) else if y = "c" then some (.int c9 tc) else if y = "b" then some (.int b9 tb) else if y = "a" then some (.int a9 ta) else if y = "number" then some (.float x tx) else if y = "numbers" then some (.ref D) else if y = "script" then some (.ref l) else none))
    (N : News base L s.heap ((D, listOf vs.toArray c) :: (L + 1 + 1, oN) :: (L + 1, oP) :: [(109, tabObj #[]), (130, tabObj #[])]))
    (hN : oN.data = .cell none) (ha : 0 ≤ a9 ∧ a9 < 28) (hb : 0 ≤ b9 ∧ b9 < 41)
    (k : ∀ h' tk' oN' Tn dn t1 ni nm t2, oN'.data = .cell (some (.ref Tn)) → 0 ≤ dn ∧ dn ≤ 14 → (0 ≤ ni ∧ ni < 20 ∧ nm = nameAt ni) ∨ (ni = -1 ∧ nm = "Nobody") → @LT.lt Nat _ 130 Tn →
      Fr base L h' (fun y => if y = "d" then some (.int d9 td) else if y = "c" then some (.int c9 tc) else if y = "b" then some (.int b9 tb) else if y = "a" then some (.int a9 ta) else if y = "number" then some (.float x tx) else if y = "numbers" then some (.ref D) else if y = "script" then some (.ref l) else none) →
      News base L h' ((Tn, tup [.int dn t1, .str nm t2]) :: (D, listOf vs.toArray c) :: (L + 1 + 1, oN') :: (L + 1, oP) :: [(109, tabObj #[]), (130, tabObj #[])]) →
      wpAny (model Challenge.rw_ak5005_01.row.prog w) (callerA.deeper (lawE L a cd)) (execs rest (lawE L a cd)) Q E { s with heap := h', toks := tk' }) :
    wpAny (model Challenge.rw_ak5005_01.row.prog w) (callerA.deeper (lawE L a cd)) (execs ((lawB.drop 7).take 1 ++ rest) (lawE L a cd)) Q E s := by
  (have B : Below callerA base [] base := below_caller _; revert X; k_fill; intro X; have e : lawB = (match Challenge.rw_ak5005_01.prog.main.body.getLast? with | some (.FunctionDef _ _ b _ _ _ _ _ _ _) => b | _ => []) := rfl; dsimp only [Challenge.rw_ak5005_01, Challenge.pw_ak5005_01, List.getLast?, List.getLast] at e; rw [e]; clear e; dsimp only [List.drop, List.take, List.cons_append, List.nil_append]); k_steps
  all_goals (
    refine' k _ _ _ _ _ _ _ _ _ ?g1 ?g2 ?g3 ?g4 ?g6 ?g7
    case g6 => assumption
    case g7 => exact cb_drop (by assumption) (sub_cons (by k_mem) (sub_cons (by k_mem) (sub_cons (by k_mem) (sub_cons (by k_mem) fun q hq => by (repeat (first | exact hq | refine List.Mem.tail _ ?_))))))
    case g1 => assumption
    case g2 => omega
    case g3 => first | (have h9 := nm_no; assumption) | (have h9 := nm_in (show _ = b9 % 20 by assumption); assumption)
    case g4 => omega)
end
/-! part L3 -/
theorem offL3 : True := by
  w_top off
  trivial
theorem wayeb : (0 ≤ (18 : Int) ∧ (18 : Int) < 19 ∧ ("Wayeb'" : Str) = moonAt 18) ∨ ((18 : Int) = -1 ∧ ("Wayeb'" : Str) = "Nobody") := .inl ⟨by decide, by decide, rfl⟩
local macro_rules | `(tactic| walk_at "compareOp Eq str str") => `(tactic| (k_here; (with_reducible show wpAny _ _ (compareOp _ (Value.str (moonAt _) _) (Value.str ("Wayeb'" : Str) _)) _ _ _); k_dflt (refine' r_eq_moon ?k1 wayeb ?_; (case k1 => omega))))
section
variable {w : World} {base : Heap} {mg mb : Str → Option Value} {mean : ExcName → Option Value} {L a : Addr} {cd : Value} {s : Shared} {Q : Flow → Shared → Prop} {E : Value → Shared → Prop} {rest : List Stmt}
set_option maxRecDepth 100000 in
set_option maxHeartbeats 1000000 in
theorem seg3 {l D Tn : Addr} {vs : List Value} {c : Nat} {a9 b9 c9 d9 dn : Int} {nm : Str} {ta tb tc td tx t1 t2 : Tok} {x : UInt64} {oN oP : Obj}
    (X : (Mine.hd.heap_39 w.params).In base) (T : Top p0 loose0 mean mg mb base) (F : Fr base L s.heap (fun y => if y = "d" then some (.int d9 td) else if y = "c" then some (.int c9 tc) else if y = "b" then some (.int b9 tb) else if y = "a" then some (.int a9 ta) else if y = "number" then some (.float x tx) else if y = "numbers" then some (.ref D) else if y = "script" then some (.ref l) else none))
    (N : News base L s.heap ((Tn, tup [.int dn t1, .str nm t2]) :: (D, listOf vs.toArray c) :: (L + 1 + 1, oN) :: (L + 1, oP) :: [(109, tabObj #[]), (130, tabObj #[])]))
    (hd : 0 ≤ d9 ∧ d9 < 39)
    (k : ∀ h' tk' mi mo t4, (0 ≤ mi ∧ mi < 19 ∧ mo = moonAt mi) ∨ (mi = -1 ∧ mo = "Nobody") →
      Fr base L h' (fun y => if y = "month" then some (.str mo t4) else if y = "d" then some (.int d9 td) else if y = "c" then some (.int c9 tc) else if y = "b" then some (.int b9 tb) else if y = "a" then some (.int a9 ta) else if y = "number" then some (.float x tx) else if y = "numbers" then some (.ref D) else if y = "script" then some (.ref l) else none) →
      News base L h' ((Tn, tup [.int dn t1, .str nm t2]) :: (D, listOf vs.toArray c) :: (L + 1 + 1, oN) :: (L + 1, oP) :: [(109, tabObj #[]), (130, tabObj #[])]) →
      wpAny (model Challenge.rw_ak5005_01.row.prog w) (callerA.deeper (lawE L a cd)) (execs rest (lawE L a cd)) Q E { s with heap := h', toks := tk' }) :
    wpAny (model Challenge.rw_ak5005_01.row.prog w) (callerA.deeper (lawE L a cd)) (execs ((lawB.drop 8).take 1 ++ rest) (lawE L a cd)) Q E s := by
  (have B : Below callerA base [] base := below_caller _; revert X; k_fill; intro X; have e : lawB = (match Challenge.rw_ak5005_01.prog.main.body.getLast? with | some (.FunctionDef _ _ b _ _ _ _ _ _ _) => b | _ => []) := rfl; dsimp only [Challenge.rw_ak5005_01, Challenge.pw_ak5005_01, List.getLast?, List.getLast] at e; rw [e]; clear e; dsimp only [List.drop, List.take, List.cons_append, List.nil_append]); k_steps
  all_goals (
    refine' k _ _ _ _ _ ?g3 ?g6 ?g7
    case g6 => assumption
    case g7 => exact cb_drop (by assumption) (sub_cons (by k_mem) (sub_cons (by k_mem) fun q hq => by (repeat (first | exact hq | refine List.Mem.tail _ ?_))))
    case g3 => first | (have h9 := mo_no; assumption) | (have h9 := mo_in (show _ = d9 % 19 by assumption); assumption))
set_option maxRecDepth 100000 in
set_option maxHeartbeats 1000000 in
theorem seg4 {l D Tn : Addr} {vs : List Value} {c : Nat} {a9 b9 c9 d9 dn mi : Int} {nm mo : Str} {ta tb tc td tx t1 t2 t4 : Tok} {x : UInt64} {oN oP : Obj}
    (X : (Mine.hd.heap_39 w.params).In base) (T : Top p0 loose0 mean mg mb base) (F : Fr base L s.heap (fun y => if y = "month" then some (.str mo t4) else if y = "d" then some (.int d9 td) else if y = "c" then some (.int c9 tc) else if y = "b" then some (.int b9 tb) else if y = "a" then some (.int a9 ta) else if y = "number" then some (.float x tx) else if y = "numbers" then some (.ref D) else if y = "script" then some (.ref l) else none))
    (N : News base L s.heap ((Tn, tup [.int dn t1, .str nm t2]) :: (D, listOf vs.toArray c) :: (L + 1 + 1, oN) :: (L + 1, oP) :: [(109, tabObj #[]), (130, tabObj #[])]))
    (hc : 0 ≤ c9 ∧ c9 < 42) (hm' : (0 ≤ mi ∧ mi < 19 ∧ mo = moonAt mi) ∨ (mi = -1 ∧ mo = "Nobody"))
    (k : ∀ h' tk' dv t3, -1 ≤ dv ∧ dv ≤ 20 →
      Fr base L h' (fun y => if y = "day" then some (.int dv t3) else if y = "month" then some (.str mo t4) else if y = "d" then some (.int d9 td) else if y = "c" then some (.int c9 tc) else if y = "b" then some (.int b9 tb) else if y = "a" then some (.int a9 ta) else if y = "number" then some (.float x tx) else if y = "numbers" then some (.ref D) else if y = "script" then some (.ref l) else none) →
      News base L h' ((Tn, tup [.int dn t1, .str nm t2]) :: (D, listOf vs.toArray c) :: (L + 1 + 1, oN) :: (L + 1, oP) :: [(109, tabObj #[]), (130, tabObj #[])]) →
      wpAny (model Challenge.rw_ak5005_01.row.prog w) (callerA.deeper (lawE L a cd)) (execs rest (lawE L a cd)) Q E { s with heap := h', toks := tk' }) :
    wpAny (model Challenge.rw_ak5005_01.row.prog w) (callerA.deeper (lawE L a cd)) (execs ((lawB.drop 9).take 1 ++ rest) (lawE L a cd)) Q E s := by
  rcases hm' with ⟨hm0, hm1, rfl⟩ | ⟨rfl, rfl⟩
  all_goals (
    (have B : Below callerA base [] base := below_caller _; revert X; k_fill; intro X; have e : lawB = (match Challenge.rw_ak5005_01.prog.main.body.getLast? with | some (.FunctionDef _ _ b _ _ _ _ _ _ _) => b | _ => []) := rfl; dsimp only [Challenge.rw_ak5005_01, Challenge.pw_ak5005_01, List.getLast?, List.getLast] at e; rw [e]; clear e; dsimp only [List.drop, List.take, List.cons_append, List.nil_append]); k_steps
    all_goals (
      refine' k _ _ _ _ ?g3 ?g6 ?g7
      case g6 => assumption
      case g7 => exact cb_drop (by assumption) (sub_cons (by k_mem) (sub_cons (by k_mem) fun q hq => by (repeat (first | exact hq | refine List.Mem.tail _ ?_))))
      case g3 => omega))
end
/-! part L4 -/
theorem offL4 : True := by
  w_top off
  trivial
section
variable {w : World} {base : Heap} {mg mb : Str → Option Value} {mean : ExcName → Option Value} {L a : Addr} {cd : Value} {s : Shared} {Q : Flow → Shared → Prop} {E : Value → Shared → Prop} {rest : List Stmt}
set_option maxRecDepth 100000 in
set_option maxHeartbeats 1000000 in
theorem seg5 {l D Tn : Addr} {vs : List Value} {c : Nat} {a9 b9 c9 d9 dn dv past : Int} {nm mo : Str} {ta tb tc td tx t1 t2 t3 t4 tp : Tok} {x : UInt64} {oN oP : Obj}
    (X : (Mine.hd.heap_39 w.params).In base) (T : Top p0 loose0 mean mg mb base) (F : Fr base L s.heap (fun y => if y = "day" then some (.int dv t3) else if y = "month" then some (.str mo t4) else if y = "d" then some (.int d9 td) else if y = "c" then some (.int c9 tc) else if y = "b" then some (.int b9 tb) else if y = "a" then some (.int a9 ta) else if y = "number" then some (.float x tx) else if y = "numbers" then some (.ref D) else if y = "script" then some (.ref l) else none))
    (N : News base L s.heap ((Tn, tup [.int dn t1, .str nm t2]) :: (D, listOf vs.toArray c) :: (L + 1 + 1, oN) :: (L + 1, oP) :: [(109, tabObj #[]), (130, tabObj #[])]))
    (hP : oP.data = .cell (some (.int past tp))) (hp : 0 ≤ past ∧ past < 10000000)
    (k : ∀ h' tk' Hn r1 kin r2 uin r3 tun bak kat u1 u2 u3 u4 u5 u6 u7 u8, @LT.lt Nat _ 130 Hn → 0 ≤ bak ∧ bak < 1000 → 0 ≤ kat ∧ kat < 20 → 0 ≤ tun ∧ tun < 20 → 0 ≤ uin ∧ uin < 18 → 0 ≤ kin ∧ kin < 20 → past = bak * 144000 + kat * 7200 + tun * 360 + uin * 20 + kin →
      Fr base L h' (fun y => if y = "katun" then some (.int kat u8) else if y = "baktun" then some (.int bak u7) else if y = "tun" then some (.int tun u6) else if y = "rest" then some (.int r3 u5) else if y = "uinal" then some (.int uin u4) else if y = "rest" then some (.int r2 u3) else if y = "kin" then some (.int kin u2) else if y = "rest" then some (.int r1 u1) else if y = "haab" then some (.ref Hn) else if y = "day" then some (.int dv t3) else if y = "month" then some (.str mo t4) else if y = "d" then some (.int d9 td) else if y = "c" then some (.int c9 tc) else if y = "b" then some (.int b9 tb) else if y = "a" then some (.int a9 ta) else if y = "number" then some (.float x tx) else if y = "numbers" then some (.ref D) else if y = "script" then some (.ref l) else none) →
      News base L h' ((Hn, tup [.int dv t3, .str mo t4]) :: (Tn, tup [.int dn t1, .str nm t2]) :: (D, listOf vs.toArray c) :: (L + 1 + 1, oN) :: (L + 1, oP) :: [(109, tabObj #[]), (130, tabObj #[])]) →
      wpAny (model Challenge.rw_ak5005_01.row.prog w) (callerA.deeper (lawE L a cd)) (execs rest (lawE L a cd)) Q E { s with heap := h', toks := tk' }) :
    wpAny (model Challenge.rw_ak5005_01.row.prog w) (callerA.deeper (lawE L a cd)) (execs ((lawB.drop 10).take 5 ++ rest) (lawE L a cd)) Q E s := by
  (have B : Below callerA base [] base := below_caller _; revert X; k_fill; intro X; have e : lawB = (match Challenge.rw_ak5005_01.prog.main.body.getLast? with | some (.FunctionDef _ _ b _ _ _ _ _ _ _) => b | _ => []) := rfl; dsimp only [Challenge.rw_ak5005_01, Challenge.pw_ak5005_01, List.getLast?, List.getLast] at e; rw [e]; clear e; dsimp only [List.drop, List.take, List.cons_append, List.nil_append]); k_steps
  refine' k _ _ _ _ _ _ _ _ _ _ _ _ _ _ _ _ _ _ _ ?g1 ?g2 ?g3 ?g4 ?g5 ?g6 ?g7 ?g8 ?g9
  case g8 => assumption
  case g9 => exact cb_drop (by assumption) (sub_cons (by k_mem) (sub_cons (by k_mem) (sub_cons (by k_mem) fun q hq => by (repeat (first | exact hq | refine List.Mem.tail _ ?_)))))
  case g1 => omega
  all_goals (simp only [Int.fdiv_eq_ediv_of_nonneg _ (show (0 : Int) ≤ 20 by decide), Int.fdiv_eq_ediv_of_nonneg _ (show (0 : Int) ≤ 18 by decide), Int.fmod_eq_emod_of_nonneg _ (show (0 : Int) ≤ 20 by decide), Int.fmod_eq_emod_of_nonneg _ (show (0 : Int) ≤ 18 by decide)]; omega)
end
/-! part Y1 -/
theorem offY1 : True := by
  w_top off
  trivial
set_option maxRecDepth 100000
open LCg
/-- the texts that a loop has made: pairs (k, name) from place k0 on, each at lo or above -/
def Tups (h : Heap) (lo : Addr) (nv : Value) (zs : List Value) : Prop := ∀ (j : Nat) z, zs[j]? = some z → ∃ (P : Addr) (t : Tok), z = .ref P ∧ h.get? P = some (tup [.int (j : Nat) t, nv]) ∧ @LE.le Nat _ lo P
theorem Tups.nil {h : Heap} {lo : Addr} {nv : Value} : Tups h lo nv [] := fun j z e => by simp at e
theorem Tups.keeps {h h' : Heap} {lo : Addr} {nv : Value} {zs : List Value} (x : Tups h lo nv zs) (k : ∀ b o, @LE.le Nat _ lo b → h.get? b = some o → h'.get? b = some o) : Tups h' lo nv zs := fun j z e => by
  obtain ⟨P, t, h1, h2, h3⟩ := x j z e
  exact ⟨P, t, h1, k _ _ h3 h2, h3⟩
theorem Tups.snoc {h : Heap} {lo P : Addr} {nv : Value} {zs : List Value} {t : Tok} (x : Tups h lo nv zs) (hP : h.get? P = some (tup [.int (zs.length : Nat) t, nv])) (hl : @LE.le Nat _ lo P) : Tups h lo nv (zs ++ [.ref P]) := fun j z e => by
  by_cases q : j < zs.length
  · rw [List.getElem?_append_left q] at e
    exact x j z e
  · have hj : j = zs.length := by
      have := (List.getElem?_eq_some_iff.mp e).1
      simp at this; omega
    subst hj
    rw [List.getElem?_append_right (Nat.le_refl _)] at e
    simp at e
    exact ⟨P, t, e.symm, hP, hl⟩
section
variable {prog : Program} {w : World} {A : Around} {R : Result → Shared → Prop} {s : Shared}
theorem compTurn_in (elt t1 i1 t2 i2 : Expr) (scope : Scope) (pos : Pos) (it acc : Value) (env : Env) :
    compTurn (.ListComp elt [⟨t1, i1, [], 0⟩, ⟨t2, i2, [], 0⟩] scope pos) 1 it acc env = (standAt i2.pos >>= fun _ => pyNext it >>= fun r => match r with
      | none => pure (.done .next)
      | some v => letOwnedTupleGo t2 it v >>= fun _ => assign t2 env v >>= fun _ =>
        (eval elt env >>= fun x => call (.builtin "list.append") [acc, x] >>= fun _ => pure ()) >>= fun _ =>
          again (.compLoop (.ListComp elt [⟨t1, i1, [], 0⟩, ⟨t2, i2, [], 0⟩] scope pos) 1 it acc env)) := by rfl
theorem compTurn_out (elt t1 i1 t2 i2 : Expr) (scope : Scope) (pos : Pos) (it acc : Value) (env : Env) :
    compTurn (.ListComp elt [⟨t1, i1, [], 0⟩, ⟨t2, i2, [], 0⟩] scope pos) 0 it acc env = (standAt i1.pos >>= fun _ => pyNext it >>= fun r => match r with
      | none => pure (.done .next)
      | some v => letOwnedTupleGo t1 it v >>= fun _ => assign t1 env v >>= fun _ =>
        eval i2 env >>= fun x => standAt i2.pos >>= fun _ => foldedSetIterable i2 env x >>= fun x => holding [x] (pyIter x) >>= fun it2 =>
          runOwn (.compStart (.ListComp elt [⟨t1, i1, [], 0⟩, ⟨t2, i2, [], 0⟩] scope pos) 1 it2 acc env) env >>= fun _ =>
          again (.compLoop (.ListComp elt [⟨t1, i1, [], 0⟩, ⟨t2, i2, [], 0⟩] scope pos) 0 it acc env)) := by rfl
theorem elt_pair {env : Env} {one name : Str} {p1 p2 pos : Pos} {k : Nat} {m : Str → Option Value} {v nv : Value} {E : Value → Shared → Prop} {Q : Value → Shared → Prop} (hkind : env.scope.kind = .function) (h1 : env.kindOf one = some .local) (h2 : env.kindOf name = some .local)
    (hn : s.heap.Ns env.locals m) (v1 : m one = some v) (v2 : m name = some nv) (d1 : (one == ("__debug__" : Str)) = false) (d2 : (name == ("__debug__" : Str)) = false)
    (h : Q (.ref s.heap.objs.size) { s with heap := s.heap.push (tup [v, nv]) }) :
    wpAny (model prog w) A (eval (.Tuple [.Name one p1, .Name name p2] k pos) env) Q E s := by
  refine wpAny_Tuple_spliced (spliced_more (wpAny_Name (wpAny_loadName_local hkind h1 hn v1 ?_) d1))
  refine spliced_more (wpAny_Name (wpAny_loadName_local hkind h2 hn v2 ?_) d2)
  exact spliced_none ⟨Nat.le_of_ble_eq_true rfl, h⟩
theorem year_inner {i1 i2 : Expr} {one name : Str} {p1 p2 p3 pn po pos : Pos} {tk0 : Nat} {scope : Scope} {cenv : Env} {C D J : Addr} {ys : List Value} {m₀ : Str → Option Value} {nv : Value} {n : Nat} (hh : A.handled = none)
    (hkind : cenv.scope.kind = .function) (h1 : cenv.kindOf one = some .local) (h2 : cenv.kindOf name = some .local) (hloc : cenv.locals = C) (d1 : (one == ("__debug__" : Str)) = false) (d2 : (name == ("__debug__" : Str)) = false) (hne : name ≠ one)
    (hpl : (cenv.scope.kind == .class || (cenv.scope.kind == .module && cenv.locals != cenv.globals)) = false)
    (hC : s.heap.Ns C m₀) (hv : m₀ name = some nv) (hD : s.heap.get? D = some (lst ys)) (hJ : IsRangeIter s.heap J (0 + ((0 : Nat) : Int) * 1) ((n : Int) - ((0 : Nat) : Int)) 1) (hCD : C ≠ D) (hCJ : C ≠ J) (hDJ : D ≠ J) (hsz : ys.length + n ≤ sizeLine)
    (h : ∀ h' tk zs m₁, h'.Ns C m₁ → h'.get? D = some (lst (ys ++ zs)) → zs.length = n → Tups h' s.heap.objs.size nv zs → (∀ b o, b ≠ C → b ≠ D → b ≠ J → s.heap.get? b = some o → h'.get? b = some o) → R (.ok .next) { s with heap := h', toks := tk }) :
    codeAny (model prog w) A (.compLoop (.ListComp (.Tuple [.Name one p1, .Name name p2] tk0 p3) [⟨.Name name pn, i1, [], 0⟩, ⟨.Name one po, i2, [], 0⟩] scope pos) 1 (.ref J) (.ref D) cenv) R s := by
  have hJlt : J < s.heap.objs.size := Heap.lt_size hJ
  have hDlt : D < s.heap.objs.size := Heap.lt_size hD
  have hClt : C < s.heap.objs.size := by obtain ⟨_, _, _, e, _⟩ := hC; exact Heap.lt_size e
  refine codeAny_loop rfl
    (fun k s' => ∃ h' tk i zs m₁, s' = { s with heap := h', toks := tk } ∧ i ≤ n ∧ k = n + 1 - i ∧ zs.length = i ∧ IsRangeIter h' J (0 + ((i : Nat) : Int) * 1) ((n : Int) - ((i : Nat) : Int)) 1 ∧ h'.Ns C m₁ ∧ m₁ name = some nv ∧
      h'.get? D = some (lst (ys ++ zs)) ∧ Tups h' s.heap.objs.size nv zs ∧ (∀ b o, b ≠ C → b ≠ D → b ≠ J → s.heap.get? b = some o → h'.get? b = some o) ∧ @LE.le Nat _ s.heap.objs.size h'.objs.size)
    (fun k s' hI => ?_) (n + 1) ⟨s.heap, s.toks, 0, [], m₀, rfl, Nat.zero_le _, rfl, rfl, hJ, hC, hv, by simpa using hD, .nil, fun _ _ _ _ _ e => e, Nat.le_refl _⟩
  obtain ⟨h', tk, i, zs, m₁, rfl, hi, rfl, hzl, hJ', hC', hv', hD', hT', hk', hsz'⟩ := hI
  show wpAny _ _ ((compTurn _ 1 (.ref J) (.ref D) cenv).onRaise (fun x => do noteFrame x cenv; theTreesLotGoes x)) _ _ _
  refine wpAny_noted ?_
  rw [compTurn_in]
  refine wpAny_bind (wpAny_standAt (wpAny_bind ?_))
  by_cases hlt : i < n
  · refine wpAny_pyNext_range_item hJ' (by omega) fun h₂ hit₂ hs₂ => ?_
    refine wpAny_bind (wpAny_pure ?_)
    have hC₂ : h₂.Ns cenv.locals m₁ := by rw [hloc]; exact hC'.at' fun o e => (hs₂.2 C hCJ).trans e
    refine wpAny_bind (wpAny_assign_Name (wpAny_storeName_local h1 hC₂ (fun h₃ hn₃ hs₃ => ?_) hpl))
    rw [hloc] at hs₃
    refine wpAny_bind (wpAny_bind (elt_pair hkind h1 h2 hn₃ (v := .int (0 + ((i : Nat) : Int) * 1) tk) (nv := nv) (by simp) (by rw [if_neg hne]; exact hv') d1 d2 ?_))
    have hD₃ : h₃.get? D = some (lst (ys ++ zs)) := (hs₃.2 D (Ne.symm hCD)).trans ((hs₂.2 D hDJ).trans hD')
    have z2 : h₂.objs.size = h'.objs.size := hs₂.1
    have z3 : h₃.objs.size = h₂.objs.size := hs₃.1
    refine wpAny_bind (append_at (s := { s with heap := h₃.push _, toks := _ }) (hsz := by show (ys ++ zs).toArray.size ≤ sizeLine; rw [List.size_toArray, List.length_append, hzl]; omega) (Heap.get?_push_of_some _ hD₃) fun h₅ hs₅ hD₅ => wpAny_pure ?_)
    have keep5 : ∀ b o, b ≠ C → b ≠ D → b ≠ J → h'.get? b = some o → h₅.get? b = some o := fun b o c1 c2 c3 e =>
      (hs₅.2 b c2).trans (Heap.get?_push_of_some _ ((hs₃.2 b c1).trans ((hs₂.2 b c3).trans e)))
    have e0 : (0 + ((i : Nat) : Int) * 1) = ((zs.length : Nat) : Int) := by rw [hzl]; omega
    have hPD : h₃.objs.size ≠ D := Nat.ne_of_gt (Heap.lt_size hD₃)
    refine wpAny_pure ⟨rfl, n + 1 - (i + 1), by omega, h₅, _, i + 1, zs ++ [.ref h₃.objs.size], (fun y => if y = one then some (.int (0 + ((i : Nat) : Int) * 1) tk) else m₁ y), rfl, hlt, rfl, by simp [hzl], ?_, ?_, ?_, ?_, ?_, fun b o c1 c2 c3 e => keep5 b o c1 c2 c3 (hk' b o c1 c2 c3 e), ?_⟩
    · have e1 : (0 + ((i : Nat) : Int) * 1) + 1 = 0 + ((i + 1 : Nat) : Int) * 1 := by omega
      have e2 : (n : Int) - ((i : Nat) : Int) - 1 = (n : Int) - ((i + 1 : Nat) : Int) := by omega
      rw [e1, e2] at hit₂
      exact (hs₅.2 J (Ne.symm hDJ)).trans (Heap.get?_push_of_some _ ((hs₃.2 J (Ne.symm hCJ)).trans hit₂))
    · rw [hloc] at hn₃
      exact (hn₃.push _).sameBut hs₅ hCD
    · show (if name = one then _ else m₁ name) = _
      rw [if_neg hne]; exact hv'
    · rw [hD₅, ← List.append_assoc]
      exact congrArg some (lst_snoc (ys ++ zs) (.ref h₃.objs.size))
    · refine Tups.snoc (t := tk) (hT'.keeps fun b o hb e => keep5 b o (fun q => ?_) (fun q => ?_) (fun q => ?_) e) ?_ ?_
      · rw [q] at hb; exact Nat.lt_irrefl _ (Nat.lt_of_lt_of_le hClt hb)
      · rw [q] at hb; exact Nat.lt_irrefl _ (Nat.lt_of_lt_of_le hDlt hb)
      · rw [q] at hb; exact Nat.lt_irrefl _ (Nat.lt_of_lt_of_le hJlt hb)
      · rw [← e0]
        exact (hs₅.2 _ hPD).trans (Heap.get?_push_size _ rfl)
      · rw [z3, z2]; exact hsz'
    · have z5 : h₅.objs.size = (h₃.push (tup [.int (0 + ((i : Nat) : Int) * 1) tk, nv])).objs.size := hs₅.1
      rw [z5, Heap.size_push, z3, z2]; exact Nat.le_succ_of_le hsz'
  · obtain rfl : i = n := Nat.le_antisymm hi (Nat.not_lt.mp hlt)
    refine wpAny_pyNext_range_end hh hJ' (by omega) fun h₂ hx₂ => wpAny_pure ?_
    exact h h₂ tk zs m₁ (hC'.at' fun o e => hx₂ C o hCJ e) (hx₂ D _ hDJ hD') hzl (hT'.keeps fun b o hb e => hx₂ b o (fun q => by rw [q] at hb; exact Nat.lt_irrefl _ (Nat.lt_of_lt_of_le hJlt hb)) e) fun b o c1 c2 c3 e => hx₂ b o c3 (hk' b o c1 c2 c3 e)
end
/-! part Y2 -/
theorem offY2 : True := by
  w_top off
  trivial
set_option maxRecDepth 100000
open LCg
def cntY (i : Nat) : Nat := if i = 18 then 5 else 20
def TupsY (h : Heap) (C : Addr) (ys : List Value) : Prop := ∀ (j : Nat) z, ys[j]? = some z → ∃ (P : Addr) (t1 t2 : Tok), z = .ref P ∧ h.get? P = some (tup [.int ((j % 20 : Nat) : Int) t1, .str (moonAt ((j / 20 : Nat) : Int)) t2]) ∧ @LT.lt Nat _ C P
theorem TupsY.nil {h : Heap} {C : Addr} : TupsY h C [] := fun j z e => by simp at e
theorem TupsY.keeps {h h' : Heap} {C : Addr} {zs : List Value} (x : TupsY h C zs) (k : ∀ b o, @LT.lt Nat _ C b → h.get? b = some o → h'.get? b = some o) : TupsY h' C zs := fun j z e => by
  obtain ⟨P, t1, t2, h1, h2, h3⟩ := x j z e
  exact ⟨P, t1, t2, h1, k _ _ h3 h2, h3⟩
theorem TupsY.append {h : Heap} {C lo : Addr} {ys zs : List Value} {i : Nat} {t : Tok} (x : TupsY h C ys) (hy : ys.length = 20 * i) (y : Tups h lo (.str (moonAt ((i : Nat) : Int)) t) zs) (hz : zs.length ≤ 20) (hl : @LT.lt Nat _ C lo) : TupsY h C (ys ++ zs) := fun j z e => by
  by_cases q : j < ys.length
  · rw [List.getElem?_append_left q] at e
    exact x j z e
  · have q' : ys.length ≤ j := Nat.le_of_not_lt q
    rw [List.getElem?_append_right q'] at e
    obtain ⟨P, t', h1, h2, h3⟩ := y _ z e
    have hj : j - ys.length < zs.length := (List.getElem?_eq_some_iff.mp e).1
    refine ⟨P, t', t, h1, ?_, Nat.lt_of_lt_of_le hl h3⟩
    have e1 : j % 20 = j - ys.length := by omega
    have e2 : j / 20 = i := by omega
    rw [e1, e2]; exact h2
section
variable {prog : Program} {w : World} {A : Around} {R : Result → Shared → Prop} {s : Shared}
theorem compStart_in {elt t1 i1 t2 i2 : Expr} {scope : Scope} {pos : Pos} {it acc : Value} {env : Env}
    (h0 : codeAny (model prog w) A (.compLoop (.ListComp elt [⟨t1, i1, [], 0⟩, ⟨t2, i2, [], 0⟩] scope pos) 1 it acc env) R s)
    (h : wpAny (model prog w) A (pyIter it) (fun it' s' => codeAny (model prog w) A (.compLoop (.ListComp elt [⟨t1, i1, [], 0⟩, ⟨t2, i2, [], 0⟩] scope pos) 1 it' acc env) R s')
      (notedBy (model prog w) A env fun x s' => R (.error x) s') s) :
    codeAny (model prog w) A (.compStart (.ListComp elt [⟨t1, i1, [], 0⟩, ⟨t2, i2, [], 0⟩] scope pos) 1 it acc env) R s := by
  refine codeAny_of_tree ?_
  show wpAny _ _ ((compStart (.ListComp elt [⟨t1, i1, [], 0⟩, ⟨t2, i2, [], 0⟩] scope pos) 1 it acc env).onRaise (fun x => do noteFrame x env; standAt theWindowsPlace)) _ _ s
  refine wpAny_notedAt ?_
  unfold compStart
  show wpAny _ _ (ask >>= _) _ _ s
  refine wpAny_bind (wpAny_askSetting (wpAny_ite ?_))
  split
  · first
      | exact wpAny_bind (wpAny_pure (wpAny_pure (And.intro rfl h0)))
      | exact wpAny_pure (And.intro rfl h0)
  · first
      | exact wpAny_bind (wpAny_rule (wpAny_bind (wpAny_standAt (wpAny_bind (wpAny_mono h (fun it' s' h' => wpAny_pure (And.intro rfl h')) fun _ _ x => x)))))
      | (refine wpAny_bind (wpAny_rule ?_); show wpAny _ _ (standAt i2.pos >>= _) _ _ s; exact wpAny_bind (wpAny_standAt (wpAny_bind (wpAny_mono h (fun it' s' h' => wpAny_pure (And.intro rfl h')) fun _ _ x => x))))
end
section
variable {prog : Program} {w : World} {A : Around} {R : Result → Shared → Prop} {s : Shared}
theorem year_outer {i1 i2 : Expr} {one name : Str} {p1 p2 p3 pn po pos : Pos} {tk0 : Nat} {scope : Scope} {cenv : Env} {I C D l : Addr} {m₀ : Str → Option Value} {its : Array Value} (hh : A.handled = none)
    (hkind : cenv.scope.kind = .function) (h1 : cenv.kindOf one = some .local) (h2 : cenv.kindOf name = some .local) (hloc : cenv.locals = C) (d1 : (one == ("__debug__" : Str)) = false) (d2 : (name == ("__debug__" : Str)) = false) (hne : name ≠ one)
    (hpl : (cenv.scope.kind == .class || (cenv.scope.kind == .module && cenv.locals != cenv.globals)) = false) (hfold : ∀ x, foldedSetIterable i2 cenv x = pure x)
    (hI : s.heap.IsListIter I l 0) (hl : s.heap.IsList l its) (hs : StrsAre its.toList moons) (hC : s.heap.Ns C m₀) (hD : s.heap.get? D = some (lst [])) (hIC : @LT.lt Nat _ I C) (hDC : @LT.lt Nat _ D C) (hID : I ≠ D) (hlI : l ≠ I) (hlC : l ≠ C) (hlD : l ≠ D)
    (hiter : ∀ (i : Nat) h' tk m₁ t ys (E : Value → Shared → Prop), i < 19 → (∀ b o, b ≠ I → b ≠ C → b ≠ D → s.heap.get? b = some o → h'.get? b = some o) → (∃ o, h'.get? I = some o) → h'.get? D = some (lst ys) → h'.Ns C m₁ → m₁ name = some (.str (moonAt ((i : Nat) : Int)) t) →
      wpAny (model prog w) A (eval i2 cenv) (fun xv s₂ => ∃ r a1 a2 a3 h₂ tk₂, xv = .ref r ∧ IsRange h₂ r 0 (cntY i) 1 a1 a2 a3 ∧ s₂ = { s with heap := h₂, toks := tk₂ } ∧ ∀ b o, h'.get? b = some o → h₂.get? b = some o) E { s with heap := h', toks := tk })
    (h : ∀ h' tk ys m₁, h'.Ns C m₁ → h'.get? D = some (lst ys) → ys.length = 365 → TupsY h' C ys → (∀ b o, b ≠ I → b ≠ C → b ≠ D → s.heap.get? b = some o → h'.get? b = some o) → R (.ok .next) { s with heap := h', toks := tk }) :
    codeAny (model prog w) A (.compLoop (.ListComp (.Tuple [.Name one p1, .Name name p2] tk0 p3) [⟨.Name name pn, i1, [], 0⟩, ⟨.Name one po, i2, [], 0⟩] scope pos) 0 (.ref I) (.ref D) cenv) R s := by
  have hsz : its.size = 19 := by
    have q : its.size = moons.length := by simpa using hs.length
    exact q
  have hCI : C ≠ I := Nat.ne_of_gt hIC
  have hCD : C ≠ D := Nat.ne_of_gt hDC
  refine codeAny_loop rfl
    (fun k s' => ∃ h' tk i ys m₁, s' = { s with heap := h', toks := tk } ∧ i ≤ 19 ∧ k = 20 - i ∧ ys.length = min (20 * i) 365 ∧ h'.IsListIter I l i ∧ h'.Ns C m₁ ∧ h'.get? D = some (lst ys) ∧ TupsY h' C ys ∧
      (∀ b o, b ≠ I → b ≠ C → b ≠ D → s.heap.get? b = some o → h'.get? b = some o))
    (fun k s' hInv => ?_) 20 ⟨s.heap, s.toks, 0, [], m₀, rfl, by omega, rfl, rfl, hI, hC, hD, .nil, fun _ _ _ _ _ e => e⟩
  obtain ⟨h', tk, i, ys, m₁, rfl, hi, rfl, hyl, hI', hC', hD', hT', hk'⟩ := hInv
  have hl' : h'.IsList l its := hl.at fun o e => hk' l o hlI hlC hlD e
  show wpAny _ _ ((compTurn _ 0 (.ref I) (.ref D) cenv).onRaise (fun x => do noteFrame x cenv; theTreesLotGoes x)) _ _ _
  refine wpAny_noted ?_
  rw [compTurn_out]
  refine wpAny_bind (wpAny_standAt (wpAny_bind ?_))
  by_cases hlt : i < 19
  · obtain ⟨t, ht⟩ := hs.get i hlt
    have hx : its[i]? = some (.str (moonAt ((i : Nat) : Int)) t) := by simpa [moonAt] using ht
    refine wpAny_pyNext_list_item hI' hl' hx fun h₂ hit₂ hs₂ => ?_
    refine wpAny_bind (wpAny_pure ?_)
    have hC₂ : h₂.Ns cenv.locals m₁ := by rw [hloc]; exact hC'.at' fun o e => (hs₂.2 C hCI).trans e
    refine wpAny_bind (wpAny_assign_Name (wpAny_storeName_local h2 hC₂ (fun h₃ hn₃ hs₃ => ?_) hpl))
    rw [hloc] at hs₃ hn₃
    have keep3 : ∀ b o, b ≠ I → b ≠ C → h'.get? b = some o → h₃.get? b = some o := fun b o c1 c2 e => (hs₃.2 b c2).trans ((hs₂.2 b c1).trans e)
    have hD₃ : h₃.get? D = some (lst ys) := keep3 D _ (Ne.symm hID) (Ne.symm hCD) hD'
    have hI₃ : h₃.IsListIter I l (i + 1) := by obtain ⟨o, e, r⟩ := hit₂; exact ⟨o, (hs₃.2 I (Ne.symm hCI)).trans e, r⟩
    refine wpAny_bind (wpAny_mono (hiter i h₃ _ _ t ys _ hlt (fun b o c1 c2 c3 e => keep3 b o c1 c2 (hk' b o c1 c2 c3 e)) (by obtain ⟨o, e, _⟩ := hI₃; exact ⟨o, e⟩) hD₃ hn₃ (by simp)) (fun xv s₂ hxv => ?_) fun _ _ e => e)
    obtain ⟨r, a1, a2, a3, h₄, tk₄, rfl, hr, rfl, hk₄⟩ := hxv
    refine wpAny_bind (wpAny_standAt (wpAny_bind (wpAny_of_eq (hfold _) ?_)))
    have hsm : Builtin.Range.small 0 ((cntY i : Nat) : Int) 1 = true := by unfold cntY; split <;> decide
    have hrs : Builtin.Range.rangeSize 0 ((cntY i : Nat) : Int) 1 = ((cntY i : Nat) : Int) := by unfold cntY; split <;> decide
    refine wpAny_bind (wpAny_holding (wpAny_pyIter_range hr hsm ?_))
    rw [hrs]
    have hJ : IsRangeIter (h₄.push { cls := .type "range_iterator", data := .fields #[rawInt 0, rawInt ((cntY i : Nat) : Int), rawInt 1] }) h₄.objs.size (0 + ((0 : Nat) : Int) * 1) (((cntY i : Nat) : Int) - ((0 : Nat) : Int)) 1 := by
      show Heap.get? _ _ = _
      simpa using Heap.get?_push_size _ rfl
    have keep5 : ∀ b o, h₄.get? b = some o → (h₄.push { cls := .type "range_iterator", data := .fields #[rawInt 0, rawInt ((cntY i : Nat) : Int), rawInt 1] }).get? b = some o := fun _ _ e => Heap.get?_push_of_some _ e
    have hsz5 : (h₄.push { cls := .type "range_iterator", data := .fields #[rawInt 0, rawInt ((cntY i : Nat) : Int), rawInt 1] }).objs.size = h₄.objs.size + 1 := Heap.size_push ..
    generalize (h₄.push { cls := .type "range_iterator", data := .fields #[rawInt 0, rawInt ((cntY i : Nat) : Int), rawInt 1] }) = h₅ at hJ keep5 hsz5 ⊢
    have hC₅ : h₅.Ns C (fun x => if x = name then some (.str (moonAt ((i : Nat) : Int)) t) else m₁ x) := hn₃.at' fun o e => keep5 _ _ (hk₄ _ _ e)
    have hD₅ : h₅.get? D = some (lst ys) := keep5 _ _ (hk₄ _ _ hD₃)
    have hClt : @LT.lt Nat _ C h₄.objs.size := by obtain ⟨_, _, _, e, _⟩ := hn₃; exact Heap.lt_size (hk₄ _ _ e)
    have hDlt : @LT.lt Nat _ D h₄.objs.size := Heap.lt_size (hk₄ _ _ hD₃)
    have hIlt : @LT.lt Nat _ I h₄.objs.size := by obtain ⟨o, e, _⟩ := hI₃; exact Heap.lt_size (hk₄ _ _ e)
    have key : codeAny (model prog w) A (.compLoop (.ListComp (.Tuple [.Name one p1, .Name name p2] tk0 p3) [⟨.Name name pn, i1, [], 0⟩, ⟨.Name one po, i2, [], 0⟩] scope pos) 1 (.ref h₄.objs.size) (.ref D) cenv)
        (fun r s' => match r with | .ok f => ∃ m, m < 20 - i ∧ ∃ h' tk i ys m₁, s' = { s with heap := h', toks := tk } ∧ i ≤ 19 ∧ m = 20 - i ∧ ys.length = min (20 * i) 365 ∧ h'.IsListIter I l i ∧ h'.Ns C m₁ ∧ h'.get? D = some (lst ys) ∧ TupsY h' C ys ∧
          (∀ b o, b ≠ I → b ≠ C → b ≠ D → s.heap.get? b = some o → h'.get? b = some o) | .error _ => False) { s with heap := h₅, toks := tk₄ } := by
      refine year_inner hh hkind h1 h2 hloc d1 d2 hne hpl (m₀ := fun x => if x = name then some (.str (moonAt ((i : Nat) : Int)) t) else m₁ x) (nv := .str (moonAt ((i : Nat) : Int)) t) (n := cntY i) hC₅ (by simp) hD₅ hJ hCD (Nat.ne_of_lt hClt) (Nat.ne_of_lt hDlt) ?_ fun h₆ tk₆ zs m₂ hC₆ hD₆ hzl hT₆ hk₆ => ?_
      · rw [hyl, sizeLine_eq]; unfold cntY; split <;> omega
      · have cn : cntY i ≤ 20 := by unfold cntY; split <;> omega
        have hy20 : ys.length = 20 * i := by rw [hyl]; omega
        refine ⟨20 - (i + 1), by omega, h₆, tk₆, i + 1, ys ++ zs, m₂, rfl, hlt, rfl, ?_, ?_, hC₆, hD₆, ?_, fun b o c1 c2 c3 e => ?_⟩
        · rw [List.length_append, hy20, hzl]; unfold cntY; split <;> omega
        · obtain ⟨o, e, r⟩ := hI₃
          exact ⟨o, hk₆ _ _ (Ne.symm hCI) hID (Nat.ne_of_lt hIlt) (keep5 _ _ (hk₄ _ _ e)), r⟩
        · refine TupsY.append (lo := h₅.objs.size) (i := i) (t := t) (hT'.keeps fun b o hb e => ?_) hy20 hT₆ (by rw [hzl]; exact cn) (by rw [hsz5]; exact Nat.lt_succ_of_lt hClt)
          have c1 : b ≠ I := Nat.ne_of_gt (Nat.lt_trans hIC hb)
          have c2 : b ≠ C := Nat.ne_of_gt hb
          have c3 : b ≠ D := Nat.ne_of_gt (Nat.lt_trans hDC hb)
          have e4 := hk₄ _ _ (keep3 b o c1 c2 e)
          exact hk₆ b o c2 c3 (Nat.ne_of_lt (Heap.lt_size e4)) (keep5 _ _ e4)
        · have e4 := hk₄ _ _ (keep3 b o c1 c2 (hk' b o c1 c2 c3 e))
          exact hk₆ b o c2 c3 (Nat.ne_of_lt (Heap.lt_size e4)) (keep5 _ _ e4)
    have fin : codeAny (model prog w) A (.compStart (.ListComp (.Tuple [.Name one p1, .Name name p2] tk0 p3) [⟨.Name name pn, i1, [], 0⟩, ⟨.Name one po, i2, [], 0⟩] scope pos) 1 (.ref h₄.objs.size) (.ref D) cenv)
        (fun r s' => match r with | .ok f => ∃ m, m < 20 - i ∧ ∃ h' tk i ys m₁, s' = { s with heap := h', toks := tk } ∧ i ≤ 19 ∧ m = 20 - i ∧ ys.length = min (20 * i) 365 ∧ h'.IsListIter I l i ∧ h'.Ns C m₁ ∧ h'.get? D = some (lst ys) ∧ TupsY h' C ys ∧
          (∀ b o, b ≠ I → b ≠ C → b ≠ D → s.heap.get? b = some o → h'.get? b = some o) | .error _ => False) { s with heap := h₅, toks := tk₄ } :=
      compStart_in key (wpAny_pyIter_rangeiter hJ key)
    refine wpAny_bind (wpAny_runOwn (codeAny_mono (show codeAny (model prog w) (A.mark none) _ _ _ from fin) fun r s' hr => ?_))
    cases r with
    | error x => exact hr.elim
    | ok f =>
      exact wpAny_pure ⟨rfl, hr⟩
  · obtain rfl : i = 19 := by omega
    refine wpAny_pyNext_list_end hh hI' hl' (by simp [hsz]) fun h₂ hx₂ => wpAny_pure ?_
    exact h h₂ tk ys m₁ (hC'.at' fun o e => hx₂ C o hCI e) (hx₂ D _ (Ne.symm hID) hD') (by rw [hyl]; rfl) (hT'.keeps fun b o hb e => hx₂ b o (Nat.ne_of_gt (Nat.lt_trans hIC hb)) e) fun b o c1 c2 c3 e => hx₂ b o c1 (hk' b o c1 c2 c3 e)
end
/-! part Y3 -/
theorem offY3 : True := by
  w_top off
  trivial
set_option maxRecDepth 100000
open LCg
section
variable {prog : Program} {w : World} {A : Around} {E : Value → Shared → Prop} {s : Shared} {K : Frag} {h₀ : Heap} {L C : Addr} {m m₂ mg mb : Str → Option Value} {scope : Scope} {cl : List (Str × Addr)} {env : Env} {p : Program} {loose : List Str} {mean : ExcName → Option Value} {Q : Value → Shared → Prop}
theorem iter_range {name : Str} {mo : Str} {t : Tok} {np q1 q2 q3 q4 q5 q6 q7 : Pos} {k1 k2 k3 : Nat} (F : Fr h₀ L s.heap m) (X : K.In h₀) (T : Top p loose mean mg mb h₀) (e : nsIn K mainGlobals "range" = some none) (hg : env.globals = mainGlobals) (hb : env.builtins = builtinsNs)
    (hC : s.heap.Ns C m₂) (hv : m₂ name = some (.str mo t))
    (hk : (compEnvC scope cl C env).scope.kind = .function) (hx : (compEnvC scope cl C env).kindOf "range" = some .globalImplicit) (hl : (compEnvC scope cl C env).kindOf name = some .local) (hd : (name == ("__debug__" : Str)) = false)
    (h : ∀ tk t1 t2 t3, Q (.ref s.heap.objs.size) { s with heap := s.heap.push { cls := .type "range", data := .fields #[.int 0 t1, .int (if mo = "Wayeb'" then 5 else 20) t2, .int 1 t3] }, toks := tk }) :
    wpAny (model prog w) A (eval (.Call (.Name "range" np) [.IfExp (.Compare (.Name name q1) [.Eq] [.Constant (.str "Wayeb'") k1 q2] q3) (.Constant (.int 5) k2 q4) (.Constant (.int 20) k3 q5) q6] [] q7) (compEnvC scope cl C env)) Q E s := by
  refine Call_ (LCgL.ld_built F X T e PyProof.Rows.Boot.«range» (by decide) ?_ hg hb hk hx (by decide))
  refine PyProof.Rows.callWith_type1 (spliced_more (IfExp_ ?_))
  refine wpAny_isTrue_Compare1 (wpAny_Name (wpAny_loadName_local hk hl hC hv ?_) hd)
  refine wpAny_Constant_str (eq_str (wpAny_truthy_bool ?_))
  have ec : (mo == ("Wayeb'" : Str)) = decide (mo = "Wayeb'") := by
    by_cases q : mo = "Wayeb'"
    · subst q; simp
    · rw [decide_eq_false q]; exact beq_false_of_ne q
  rw [ec]
  by_cases q : mo = "Wayeb'"
  · rw [decide_eq_true q, if_pos rfl]
    refine wpAny_Constant_int (spliced_none (call_range_1 ?_))
    rw [if_pos q] at h
    exact h _ _ _ _
  · rw [decide_eq_false q, if_neg Bool.false_ne_true]
    refine wpAny_Constant_int (spliced_none (call_range_1 ?_))
    rw [if_neg q] at h
    exact h _ _ _ _
def YearSrc (h₀ : Heap) (L : Addr) (m : Str → Option Value) (y : Str) (A : Around) (Q : Flow → Shared → Prop) (xv : Value) (s₁ : Shared) : Prop :=
  ∃ l its c news, xv = .ref l ∧ A.handled = none ∧ Fr h₀ L s₁.heap m ∧ News h₀ L s₁.heap news ∧ (l, listOf its.toArray c) ∈ news ∧ StrsAre its moons ∧
      ∀ D h' tk ys C, Fr h₀ L h' (fun z => if z = y then some (.ref D) else m z) → News h₀ L h' ((D, lst ys) :: news) → ys.length = 365 → TupsY h' C ys → @LT.lt Nat _ L C → (∀ q ∈ news, q.1 < C) → D < C → (∀ q ∈ news, q.1 < D) → Q .next { s₁ with heap := h', toks := tk }
theorem moon_wayeb : ∀ i, i < 19 → (moonAt ((i : Nat) : Int) = "Wayeb'" ↔ i = 18) := by decide +kernel
theorem year_assign {i1 : Expr} {one name y : Str} {p1 p2 p3 pn po pos py spos np q1 q2 q3 q4 q5 q6 q7 : Pos} {tk0 k1 k2 k3 : Nat} {Q : Flow → Shared → Prop} (F₀ : Fr h₀ L s.heap m) (hLe : env.locals = L) (X : K.In h₀) (T : Top p loose mean mg mb h₀)
    (e : nsIn K mainGlobals "range" = some none) (hg : env.globals = mainGlobals) (hb : env.builtins = builtinsNs) (hek : env.scope.kind = .function)
    (hsw : swapsWith (.ListComp (.Tuple [.Name one p1, .Name name p2] tk0 p3) [⟨.Name name pn, i1, [], 0⟩, ⟨.Name one po, (.Call (.Name "range" np) [.IfExp (.Compare (.Name name q1) [.Eq] [.Constant (.str "Wayeb'") k1 q2] q3) (.Constant (.int 5) k2 q4) (.Constant (.int 20) k3 q5) q6] [] q7), [], 0⟩] scope pos) (some (.Name y py)) spos.line env = pure true)
    (hclos : closureFor scope env = pure cl) (hcell : ∀ z ∈ scope.names, z.2 ≠ .cell) (hkind : scope.kind = .function)
    (hnames : ∀ z ∈ scope.names, z.2 = .local → scope.names.lookup z.1 = some .local) (hx1 : scope.names.lookup one = some .local) (hx2 : scope.names.lookup name = some .local) (d1 : (one == ("__debug__" : Str)) = false) (d2 : (name == ("__debug__" : Str)) = false) (hne : name ≠ one)
    (hrg : ∀ C, (compEnvC scope cl C env).kindOf "range" = some .globalImplicit)
    (hy : env.kindOf y = some .local) (hp : (env.scope.kind == .class || (env.scope.kind == .module && env.locals != env.globals)) = false)
    (h : wpAny (model prog w) A (eval i1 env) (fun xv s₁ => YearSrc h₀ L m y A Q xv s₁) E s)
    (hs : ∀ x, foldedSetIterable i1 env x = pure x := by intro _; rfl) :
    wpAny (model prog w) A (exec (.Assign [.Name y py] (.ListComp (.Tuple [.Name one p1, .Name name p2] tk0 p3) [⟨.Name name pn, i1, [], 0⟩, ⟨.Name one po, (.Call (.Name "range" np) [.IfExp (.Compare (.Name name q1) [.Eq] [.Constant (.str "Wayeb'") k1 q2] q3) (.Constant (.int 5) k2 q4) (.Constant (.int 20) k3 q5) q6] [] q7), [], 0⟩] scope pos) spos) env) Q E s := by
  subst hLe
  rw [exec_Assign_Name_used _ _ _ _ hsw]
  refine wpAny_bind (wpAny_standAt (wpAny_bind ?_))
  show wpAny _ A (do let _ ← comprehension (.ListComp (.Tuple [.Name one p1, .Name name p2] tk0 p3) [⟨.Name name pn, i1, [], 0⟩, ⟨.Name one po, (.Call (.Name "range" np) [.IfExp (.Compare (.Name name q1) [.Eq] [.Constant (.str "Wayeb'") k1 q2] q3) (.Constant (.int 5) k2 q4) (.Constant (.int 20) k3 q5) q6] [] q7), [], 0⟩] scope pos) scope env _ (newList []) false (eval i1 env) (some (assign (.Name y py) env))) _ _ s
  refine wpAny_bind (wpAny_mono (wpAny_comprehension_free (use := some (assign (.Name y py) env)) (Q := fun _ s' => Q .next s') rfl hs hclos hkind hnames
    (wpAny_mono h (fun xv s₁ h₁ => ?_) fun _ _ e => e)) (fun _ s' hq => wpAny_pure (wpAny_pure hq)) fun _ _ e => e)
  obtain ⟨l, its, c, news, rfl, hh, F, N, hm, hst, hQ⟩ := h₁
  have hl : s₁.heap.IsList l its.toArray := ⟨_, (N _ hm).1, rfl, _, rfl⟩
  have hllt : @LT.lt Nat _ l s₁.heap.objs.size := Heap.lt_size (N _ hm).1
  have hLlt : @LT.lt Nat _ env.locals s₁.heap.objs.size := F.ns.lt
  refine wpAny_pyIter_list hl ?_
  have up : ∀ b o, s₁.heap.get? b = some o → (s₁.heap.push { cls := .type "list_iterator", data := .fields #[.ref l, .int 0 0] }).get? b = some o := fun b o e => Heap.get?_push_of_some _ e
  have hI₁ : (s₁.heap.push { cls := .type "list_iterator", data := .fields #[.ref l, .int 0 0] }).IsListIter s₁.heap.objs.size l 0 := ⟨_, Heap.get?_push_size _ rfl, rfl, rfl⟩
  have z₁ : (s₁.heap.push { cls := .type "list_iterator", data := .fields #[.ref l, .int 0 0] }).objs.size = s₁.heap.objs.size + 1 := Heap.size_push ..
  generalize (s₁.heap.push { cls := .type "list_iterator", data := .fields #[.ref l, .int 0 0] }) = H1 at up hI₁ z₁ ⊢
  refine wpAny_newObj_type (wpAny_newFunctionEnv hcell (by intro y hy; simp at hy) (fun h₂ hns₂ hsb₂ => ?_) hkind)
  dsimp only at hns₂ hsb₂ ⊢
  have up2 : ∀ b o, H1.get? b = some o → (H1.push { cls := .type "list", dict := none, data := .seq ([] : List Value).toArray }).get? b = some o := fun b o e => Heap.get?_push_of_some _ e
  have hD₂ : (H1.push { cls := .type "list", dict := none, data := .seq ([] : List Value).toArray }).get? H1.objs.size = some (lst []) := Heap.get?_push_size _ rfl
  have z₂ : (H1.push { cls := .type "list", dict := none, data := .seq ([] : List Value).toArray }).objs.size = H1.objs.size + 1 := Heap.size_push ..
  generalize (H1.push { cls := .type "list", dict := none, data := .seq ([] : List Value).toArray }) = H2 at up2 hD₂ z₂ hns₂ hsb₂ ⊢
  have hsame : ∀ b o, H2.get? b = some o → h₂.get? b = some o := fun b o e => hsb₂.extBut b o (Nat.ne_of_lt (Heap.lt_size e)) (Heap.get?_push_of_some _ e)
  have old : ∀ b o, s₁.heap.get? b = some o → h₂.get? b = some o := fun b o e => hsame _ _ (up2 _ _ (up _ _ e))
  have hID : s₁.heap.objs.size ≠ H1.objs.size := by rw [z₁]; exact Nat.ne_of_lt (Nat.lt_succ_self _)
  have hDC : @LT.lt Nat _ H1.objs.size H2.objs.size := by rw [z₂]; exact Nat.lt_succ_self _
  have hIC : @LT.lt Nat _ s₁.heap.objs.size H2.objs.size := by rw [z₂, z₁]; exact Nat.lt_succ_of_lt (Nat.lt_succ_self _)
  have below : ∀ b, @LT.lt Nat _ b s₁.heap.objs.size → b ≠ s₁.heap.objs.size ∧ b ≠ H1.objs.size ∧ b ≠ H2.objs.size := fun b hb =>
    ⟨Nat.ne_of_lt hb, Nat.ne_of_lt (Nat.lt_trans hb (by rw [z₁]; exact Nat.lt_succ_self _)), Nat.ne_of_lt (Nat.lt_trans hb hIC)⟩
  have keepAll : ∀ {h' : Heap}, (∀ b o, b ≠ s₁.heap.objs.size → b ≠ H2.objs.size → b ≠ H1.objs.size → h₂.get? b = some o → h'.get? b = some o) → ∀ b o, s₁.heap.get? b = some o → h'.get? b = some o := fun k b o e => by
    have q := below b (Heap.lt_size e)
    exact k b o q.1 q.2.2 q.2.1 (old b o e)
  have fresh₀ : ∀ a, @LE.le Nat _ s₁.heap.objs.size a → h₀.get? a = none := fun a ha => Heap.get?_none_of_le (Nat.le_trans F.above (Nat.le_trans (Nat.le_of_lt hLlt) ha))
  have main : ∀ sX : Shared, sX = { s₁ with heap := h₂, toks := s₁.toks + ([] : List (Str × Value)).length } → codeAny (model prog w) A (.compLoop (.ListComp (.Tuple [.Name one p1, .Name name p2] tk0 p3) [⟨.Name name pn, i1, [], 0⟩, ⟨.Name one po, (.Call (.Name "range" np) [.IfExp (.Compare (.Name name q1) [.Eq] [.Constant (.str "Wayeb'") k1 q2] q3) (.Constant (.int 5) k2 q4) (.Constant (.int 20) k3 q5) q6] [] q7), [], 0⟩] scope pos) 0 (.ref s₁.heap.objs.size) (.ref H1.objs.size) (compEnvC scope cl H2.objs.size env))
      (compPost (model prog w) A E (some (assign (.Name y py) env)) (fun _ s' => Q .next s') (.ref H1.objs.size) H2.objs.size) sX := by
    rintro sX rfl
    refine year_outer (its := its.toArray) (l := l) hh (by show (relabel scope env).kind = _; simp [relabel, hkind]) (lookup_relabel_local hx1) (lookup_relabel_local hx2) rfl d1 d2 hne (by simp [compEnvC, relabel, hkind]) (fun x => rfl)
      (by obtain ⟨o, e, r⟩ := hI₁; exact ⟨o, hsame _ _ (up2 _ _ e), r⟩) (hl.at fun o e => old _ _ e) hst hns₂ (hsame _ _ hD₂) hIC hDC hID (below l hllt).1 (below l hllt).2.2 (below l hllt).2.1 ?_ ?_
    · intro i h' tk m₁ t ys E' hi hk' _ _ hn' hv'
      have F' : Fr h₀ env.locals h' m := F.keeps (keepAll hk')
      refine iter_range (s := { s₁ with heap := h', toks := tk }) F' X T e hg hb hn' hv' (by show (relabel scope env).kind = _; simp [relabel, hkind]) (hrg _) (lookup_relabel_local hx2) d2 fun tk' t1 t2 t3 => ?_
      refine ⟨_, t1, t2, t3, _, tk', rfl, ?_, rfl, fun b o e => Heap.get?_push_of_some _ e⟩
      have ec : (if moonAt ((i : Nat) : Int) = "Wayeb'" then (5 : Int) else 20) = ((cntY i : Nat) : Int) := by
        unfold cntY
        by_cases q : i = 18
        · rw [if_pos ((moon_wayeb i hi).mpr q), if_pos q]; rfl
        · rw [if_neg fun z => q ((moon_wayeb i hi).mp z), if_neg q]; rfl
      rw [ec]
      exact IsRange.new ..
    · intro h' tk ys m₁ hn' hD' hlen hT' hk'
      show wpAny _ A (assign (.Name y py) env (.ref H1.objs.size)) _ _ _
      have F' : Fr h₀ env.locals h' m := F.keeps (keepAll hk')
      have hL₀ : h₀.get? env.locals = none := Heap.get?_none_of_le F'.above
      refine wpAny_assign_Name (wpAny_storeName_local hy F'.ns (fun h₃ hn₃ hs₃ => ?_) hp)
      have q := below env.locals hLlt
      have F₃ : Fr h₀ env.locals h₃ (fun z => if z = y then some (.ref H1.objs.size) else m z) := ⟨hn₃, fun b o e => hs₃.extBut b o (fun q => by rw [q, hL₀] at e; cases e) (F'.keep b o e), F'.above⟩
      refine ⟨m₁, hn'.sameBut hs₃ (Ne.symm q.2.2), fun h₄ hs₄ => hQ H1.objs.size h₄ _ ys H2.objs.size (F₃.change hs₄ (Ne.symm q.2.2) (fresh₀ _ (Nat.le_of_lt hIC))) (fun p hp => ?_) hlen (hT'.keeps fun b o hb e => ?_) (Nat.lt_trans hLlt hIC) (fun p hp => Nat.lt_trans (Heap.lt_size (N p hp).1) hIC) hDC (fun p hp => Nat.lt_trans (Heap.lt_size (N p hp).1) (by rw [z₁]; exact Nat.lt_succ_self _))⟩
      · rcases List.mem_cons.mp hp with rfl | hp
        · exact ⟨hs₄.extBut _ _ (Nat.ne_of_lt hDC) (hs₃.extBut _ _ (Ne.symm q.2.1) hD'), Ne.symm q.2.1, fresh₀ _ (by rw [z₁]; exact Nat.le_succ _)⟩
        · have b2 := below p.1 (Heap.lt_size (N p hp).1)
          exact ⟨hs₄.extBut _ _ b2.2.2 (hs₃.extBut _ _ (N p hp).2.1 (keepAll hk' _ _ (N p hp).1)), (N p hp).2⟩
      · exact hs₄.extBut _ _ (Nat.ne_of_gt hb) (hs₃.extBut _ _ (Nat.ne_of_gt (Nat.lt_trans (Nat.lt_trans hLlt hIC) hb)) e)
  exact codeAny_compStart_list (main _ rfl) (wpAny_pyIter_listiter (by obtain ⟨o, e, r⟩ := hI₁; exact ⟨o, hsame _ _ (up2 _ _ e), r⟩) (main _ rfl))
end
/-! part L5 -/
theorem offL5 : True := by
  w_top off
  trivial
open LCg
local macro_rules | `(tactic| walk_at "exec Assign cons ListComp") => `(tactic| (k_here; (with_reducible show wpAny _ _ (exec (Stmt.Assign [Expr.Name ("year" : Str) _] (Expr.ListComp _ (_ :: _ :: _) _ _) _) _) _ _ _); k_dflt (refine' year_assign ?F ?hL ?X ?T ?e ?hg ?hb ?hek ?hsw ?hclos ?hcell ?hkind ?hnames ?hx1 ?hx2 ?d1 ?d2 ?hne ?hrg ?hy ?hp ?_ ?hs; (case F => k_asm); (case hL => exact rfl); (case X => k_asm); (case T => k_asm); (case e => k_is); (case hg => exact rfl); (case hb => exact rfl); (case hek => exact rfl); (case hsw => with_unfolding_all rfl); (case hclos => with_unfolding_all rfl); (case hcell => decide); (case hkind => exact rfl); (case hnames => decide); (case hx1 => exact rfl); (case hx2 => exact rfl); (case d1 => decide); (case d2 => decide); (case hne => decide); (case hrg => intro _; exact rfl); (case hy => exact rfl); (case hp => exact rfl); (case hs => intro _; exact rfl); k_whole)))
section
variable {w : World} {base : Heap} {mg mb : Str → Option Value} {mean : ExcName → Option Value} {L a : Addr} {cd : Value} {s : Shared} {Q : Flow → Shared → Prop} {E : Value → Shared → Prop} {rest : List Stmt}
set_option maxRecDepth 100000 in
set_option maxHeartbeats 1000000 in
theorem seg6 {l D Tn Hn : Addr} {vs : List Value} {c : Nat} {a9 b9 c9 d9 dn dv past r1 kin r2 uin r3 tun bak kat : Int} {nm mo : Str} {ta tb tc td tx t1 t2 t3 t4 u1 u2 u3 u4 u5 u6 u7 u8 : Tok} {x : UInt64} {oN oP : Obj}
    (X : (Mine.hd.heap_39 w.params).In base) (T : Top p0 loose0 mean mg mb base) (F : Fr base L s.heap (fun y => if y = "katun" then some (.int kat u8) else if y = "baktun" then some (.int bak u7) else if y = "tun" then some (.int tun u6) else if y = "rest" then some (.int r3 u5) else if y = "uinal" then some (.int uin u4) else if y = "rest" then some (.int r2 u3) else if y = "kin" then some (.int kin u2) else if y = "rest" then some (.int r1 u1) else if y = "haab" then some (.ref Hn) else if y = "day" then some (.int dv t3) else if y = "month" then some (.str mo t4) else if y = "d" then some (.int d9 td) else if y = "c" then some (.int c9 tc) else if y = "b" then some (.int b9 tb) else if y = "a" then some (.int a9 ta) else if y = "number" then some (.float x tx) else if y = "numbers" then some (.ref D) else if y = "script" then some (.ref l) else none))
    (N : News base L s.heap ((Hn, tup [.int dv t3, .str mo t4]) :: (Tn, tup [.int dn t1, .str nm t2]) :: (D, listOf vs.toArray c) :: (L + 1 + 1, oN) :: (L + 1, oP) :: [(109, tabObj #[]), (130, tabObj #[])]))
    (k : ∀ h' tk' Yn (ys : List Value) P t5 t6, ys[((348 + past) % 365).toNat]? = some (.ref P) → @LT.lt Nat _ 130 P → @LT.lt Nat _ 130 Yn →
      Fr base L h' (fun y => if y = "year" then some (.ref Yn) else if y = "katun" then some (.int kat u8) else if y = "baktun" then some (.int bak u7) else if y = "tun" then some (.int tun u6) else if y = "rest" then some (.int r3 u5) else if y = "uinal" then some (.int uin u4) else if y = "rest" then some (.int r2 u3) else if y = "kin" then some (.int kin u2) else if y = "rest" then some (.int r1 u1) else if y = "haab" then some (.ref Hn) else if y = "day" then some (.int dv t3) else if y = "month" then some (.str mo t4) else if y = "d" then some (.int d9 td) else if y = "c" then some (.int c9 tc) else if y = "b" then some (.int b9 tb) else if y = "a" then some (.int a9 ta) else if y = "number" then some (.float x tx) else if y = "numbers" then some (.ref D) else if y = "script" then some (.ref l) else none) →
      News base L h' ((Yn, listOf ys.toArray ys.length) :: (P, tup [.int ((348 + past) % 365 % 20) t5, .str (moonAt ((348 + past) % 365 / 20)) t6]) :: (Hn, tup [.int dv t3, .str mo t4]) :: (Tn, tup [.int dn t1, .str nm t2]) :: (D, listOf vs.toArray c) :: (L + 1 + 1, oN) :: (L + 1, oP) :: [(109, tabObj #[]), (130, tabObj #[])]) →
      wpAny (model Challenge.rw_ak5005_01.row.prog w) (callerA.deeper (lawE L a cd)) (execs rest (lawE L a cd)) Q E { s with heap := h', toks := tk' }) :
    wpAny (model Challenge.rw_ak5005_01.row.prog w) (callerA.deeper (lawE L a cd)) (execs ((lawB.drop 15).take 1 ++ rest) (lawE L a cd)) Q E s := by
  (have B : Below callerA base [] base := below_caller _; revert X; k_fill; intro X; have e : lawB = (match Challenge.rw_ak5005_01.prog.main.body.getLast? with | some (.FunctionDef _ _ b _ _ _ _ _ _ _) => b | _ => []) := rfl; dsimp only [Challenge.rw_ak5005_01, Challenge.pw_ak5005_01, List.getLast?, List.getLast] at e; rw [e]; clear e; dsimp only [List.drop, List.take, List.cons_append, List.nil_append]); k_steps
  refine ⟨_, _, _, _, rfl, rfl, by assumption, by assumption, by k_mem, by assumption, fun D9 h9 tk9 ys C9 F9 N9 hlen hT hLC hnC hDC hnD => ?_⟩
  have hj : ((348 + past) % 365).toNat < ys.length := by rw [hlen]; omega
  have hy := List.getElem?_eq_getElem hj
  obtain ⟨P, t5, t6, e1, e2, e3⟩ := hT _ _ hy
  rw [e1] at hy
  have q1 : ((((348 + past) % 365).toNat % 20 : Nat) : Int) = (348 + past) % 365 % 20 := by omega
  have q2 : ((((348 + past) % 365).toNat / 20 : Nat) : Int) = (348 + past) % 365 / 20 := by omega
  rw [q1, q2] at e2
  have hLP : @LT.lt Nat _ L P := Nat.lt_trans hLC e3
  refine k _ _ _ ys P t5 t6 hy (Nat.lt_trans (hnC (130, tabObj #[]) (by k_mem)) e3) (hnD (130, tabObj #[]) (by k_mem)) F9 (fun q hq => ?_)
  rcases List.mem_cons.mp hq with rfl | hq
  · exact N9 _ (.head _)
  · rcases List.mem_cons.mp hq with rfl | hq
    · exact ⟨e2, Nat.ne_of_gt hLP, Heap.get?_none_of_le (Nat.le_trans F9.above (Nat.le_of_lt hLP))⟩
    · exact N9 q (.tail _ (.tail _ hq))
end
/-! part L6 -/
theorem offL6 : True := by
  w_top off
  trivial
section
variable {prog : Program} {w : World} {A : Around} {E : Value → Shared → Prop} {s : Shared} {Q : Value → Shared → Prop} {h₀ : Heap} {L D : Addr} {m : Str → Option Value} {news : List (Addr × Obj)} {u : Tok} {k j : Int} {vs : List Value} {c : Nat} {v : Value}
theorem r_item_year {value slice : PySem.Expr} (N : News h₀ L s.heap news) (hm : (D, listOf vs.toArray c) ∈ news) (hv : vs[j.toNat]? = some v) (hk : k = j) (hj : 0 ≤ j ∧ j < 1000) (h : Q v s)
    (hs : subscripted slice false (.ref D) (.int k u) = operate [.ref D, .int k u] (getItem (.ref D) (.int k u)) := by with_unfolding_all rfl) :
    wpAny (model prog w) A (subscriptTail value slice (.ref D) (.int k u)) Q E s := by
  subst hk
  have hl : s.heap.IsList D vs.toArray := ⟨_, (N _ hm).1, rfl, _, rfl⟩
  exact tail_any hl.typeIs slot_list_getitem.lookup (wpAny_getItem_list hl hj.1 (by omega) (by simpa using hv) h) hs
end
local macro_rules | `(tactic| walk_at "subscriptTail") => `(tactic| (k_here; (with_reducible show wpAny _ _ (subscriptTail _ _ (Value.ref _) (Value.int _ _)) _ _ _); k_dflt (refine' r_item_year ?k1 ?km ?k2 ?k3 ?k5 ?_ ?k4; (case k1 => k_asm); (case km => k_mem); (case k2 => assumption); (case k3 => omega); (case k5 => omega); (case k4 => with_unfolding_all rfl))))
section
variable {w : World} {base : Heap} {mg mb : Str → Option Value} {mean : ExcName → Option Value} {L a : Addr} {cd : Value} {s : Shared} {Q : Flow → Shared → Prop} {E : Value → Shared → Prop} {rest : List Stmt}
set_option maxRecDepth 100000 in
set_option maxHeartbeats 1000000 in
theorem seg7 {l D Tn Hn Yn P : Addr} {vs ys : List Value} {c : Nat} {a9 b9 c9 d9 dn dv past r1 kin r2 uin r3 tun bak kat : Int} {nm mo : Str} {ta tb tc td tx t1 t2 t3 t4 t5 t6 u1 u2 u3 u4 u5 u6 u7 u8 tp : Tok} {x : UInt64} {oN oP : Obj}
    (X : (Mine.hd.heap_39 w.params).In base) (T : Top p0 loose0 mean mg mb base) (F : Fr base L s.heap (fun y => if y = "year" then some (.ref Yn) else if y = "katun" then some (.int kat u8) else if y = "baktun" then some (.int bak u7) else if y = "tun" then some (.int tun u6) else if y = "rest" then some (.int r3 u5) else if y = "uinal" then some (.int uin u4) else if y = "rest" then some (.int r2 u3) else if y = "kin" then some (.int kin u2) else if y = "rest" then some (.int r1 u1) else if y = "haab" then some (.ref Hn) else if y = "day" then some (.int dv t3) else if y = "month" then some (.str mo t4) else if y = "d" then some (.int d9 td) else if y = "c" then some (.int c9 tc) else if y = "b" then some (.int b9 tb) else if y = "a" then some (.int a9 ta) else if y = "number" then some (.float x tx) else if y = "numbers" then some (.ref D) else if y = "script" then some (.ref l) else none))
    (N : News base L s.heap ((Yn, listOf ys.toArray ys.length) :: (P, tup [.int ((348 + past) % 365 % 20) t5, .str (moonAt ((348 + past) % 365 / 20)) t6]) :: (Hn, tup [.int dv t3, .str mo t4]) :: (Tn, tup [.int dn t1, .str nm t2]) :: (D, listOf vs.toArray c) :: (L + 1 + 1, oN) :: (L + 1, oP) :: [(109, tabObj #[]), (130, tabObj #[])]))
    (hP : oP.data = .cell (some (.int past tp))) (hp : 0 ≤ past ∧ past < 10000000) (hy : ys[((348 + past) % 365).toNat]? = some (.ref P))
    (k : ∀ h' tk' pl tq En t7 t8, pl = (348 + past) % 365 → @LT.lt Nat _ 130 En →
      Fr base L h' (fun y => if y = "there" then some (.ref P) else if y = "here" then some (.ref En) else if y = "place" then some (.int pl tq) else if y = "year" then some (.ref Yn) else if y = "katun" then some (.int kat u8) else if y = "baktun" then some (.int bak u7) else if y = "tun" then some (.int tun u6) else if y = "rest" then some (.int r3 u5) else if y = "uinal" then some (.int uin u4) else if y = "rest" then some (.int r2 u3) else if y = "kin" then some (.int kin u2) else if y = "rest" then some (.int r1 u1) else if y = "haab" then some (.ref Hn) else if y = "day" then some (.int dv t3) else if y = "month" then some (.str mo t4) else if y = "d" then some (.int d9 td) else if y = "c" then some (.int c9 tc) else if y = "b" then some (.int b9 tb) else if y = "a" then some (.int a9 ta) else if y = "number" then some (.float x tx) else if y = "numbers" then some (.ref D) else if y = "script" then some (.ref l) else none) →
      News base L h' ((En, tup [.int ((past + 3) % 13 + 1) t7, .str (nameAt ((past + 19) % 20)) t8]) :: (P, tup [.int ((348 + past) % 365 % 20) t5, .str (moonAt ((348 + past) % 365 / 20)) t6]) :: (Hn, tup [.int dv t3, .str mo t4]) :: (Tn, tup [.int dn t1, .str nm t2]) :: (D, listOf vs.toArray c) :: (L + 1 + 1, oN) :: (L + 1, oP) :: [(109, tabObj #[]), (130, tabObj #[])]) →
      wpAny (model Challenge.rw_ak5005_01.row.prog w) (callerA.deeper (lawE L a cd)) (execs rest (lawE L a cd)) Q E { s with heap := h', toks := tk' }) :
    wpAny (model Challenge.rw_ak5005_01.row.prog w) (callerA.deeper (lawE L a cd)) (execs ((lawB.drop 16).take 3 ++ rest) (lawE L a cd)) Q E s := by
  (have B : Below callerA base [] base := below_caller _; revert X; k_fill; intro X; have e : lawB = (match Challenge.rw_ak5005_01.prog.main.body.getLast? with | some (.FunctionDef _ _ b _ _ _ _ _ _ _) => b | _ => []) := rfl; dsimp only [Challenge.rw_ak5005_01, Challenge.pw_ak5005_01, List.getLast?, List.getLast] at e; rw [e]; clear e; dsimp only [List.drop, List.take, List.cons_append, List.nil_append]); k_steps
  subst_vars
  refine' k _ _ _ _ _ _ _ ?g1 ?g2 ?g3 ?g4
  case g3 => assumption
  case g4 => exact cb_drop (by assumption) (sub_cons (by k_mem) (sub_cons (by k_mem) (sub_cons (by k_mem) fun q hq => by (repeat (first | exact hq | refine List.Mem.tail _ ?_)))))
  case g1 => rfl
  case g2 => omega
end
/-! part L7 -/
theorem offL7 : True := by
  w_top off
  trivial
open PySem.Spec in
theorem ok_moon_all : ∀ i, i < 19 → PyData.canLay0 (.str (moons.getD i "")) = true := by decide +kernel
theorem ok_name_all : ∀ i, i < 20 → PyData.canLay0 (.str (names20.getD i "")) = true := by decide +kernel
theorem ok_moon {k : Int} (h : 0 ≤ k ∧ k < 19) : PyData.canLay0 (.str (moonAt k)) = true := ok_moon_all _ (by omega)
theorem ok_name {k : Int} (h : 0 ≤ k ∧ k < 20) : PyData.canLay0 (.str (nameAt k)) = true := ok_name_all _ (by omega)
theorem ok_mo {mi : Int} {mo : Str} (hm : (0 ≤ mi ∧ mi < 19 ∧ mo = moonAt mi) ∨ (mi = -1 ∧ mo = "Nobody")) : PyData.canLay0 (.str mo) = true := by
  rcases hm with ⟨h0, h1, rfl⟩ | ⟨_, rfl⟩
  · exact ok_moon ⟨h0, h1⟩
  · decide +kernel
theorem ok_nm {mi : Int} {mo : Str} (hm : (0 ≤ mi ∧ mi < 20 ∧ mo = nameAt mi) ∨ (mi = -1 ∧ mo = "Nobody")) : PyData.canLay0 (.str mo) = true := by
  rcases hm with ⟨h0, h1, rfl⟩ | ⟨_, rfl⟩
  · exact ok_name ⟨h0, h1⟩
  · decide +kernel
section
variable {prog : Program} {w : World} {A : Around} {E : Value → Shared → Prop} {s : Shared} {Q : Value → Shared → Prop} {h₀ : Heap} {L D1 D2 : Addr} {m : Str → Option Value} {news : List (Addr × Obj)} {t1 t2 u1 u2 : Tok} {a b : Int} {x y : Str}
theorem tup_shaped (ox : PyData.canLay0 (.str x) = true) : SeqAt.shaped (.tuple [.int a, .str x]) = true := by
  simp [SeqAt.shaped, PyData.canLay0, PyData.canLayAll0, PyData.depth, PyData.depthAll] at ox ⊢
  exact ox
theorem ne_tup (N : News h₀ L s.heap news) (h1 : (D1, tup [.int a t1, .str x t2]) ∈ news) (h2 : (D2, tup [.int b u1, .str y u2]) ∈ news) (ox : PyData.canLay0 (.str x) = true) (hu : A.units + 64 < cLine) (ha : a = b) (hx : x = y) (h : Q (.bool false) s) :
    wpAny (model prog w) A (compareOp .NotEq (.ref D1) (.ref D2)) Q E s := by
  subst ha; subst hx
  refine PyProof.Rows.ne_dataH (reads_tuple_at (N _ h1).1 rfl rfl (.cons (.int _ _) (.cons (.str _ _) .nil))) (reads_tuple_at (N _ h2).1 rfl rfl (.cons (.int _ _) (.cons (.str _ _) .nil))) (tup_shaped ox) (tup_shaped ox) hu ?_
  have e : (!PyData.eqv (.tuple [.int a, .str x]) (.tuple [.int a, .str x])) = false := by simp [PyData.eqv, PyData.eqvAll]
  rw [e]; exact h
end
local macro_rules | `(tactic| walk_at "compareOp NotEq ref ref") => `(tactic| (k_here; (with_reducible show wpAny _ _ (compareOp CmpOp.NotEq (Value.ref _) (Value.ref _)) _ _ _); k_dflt (refine' ne_tup ?N ?h1 ?h2 ?ox ?hu ?ha ?hx ?_; (case N => k_asm); (case h1 => k_mem); (case h2 => k_mem); (case ox => first | exact ok_name (by omega) | exact ok_moon (by omega)); (case hu => ke_room); (case ha => omega); (case hx => first | exact congrArg nameAt (by omega) | exact congrArg moonAt (by omega)))))
local macro_rules | `(tactic| walk_at "call ref") => `(tactic| (k_here; (with_reducible show wpAny _ _ (call (Value.ref 65) [Value.float _ _]) _ _ _); k_dflt (refine' from_jd_c (Cx.mk ?cB ?cF ?cX ?cN ?cT ?ck ?cXB ?cTB ?cd ?cu) ?k1 ?k2 ?_; (case cN => k_asm); (case cB => k_asm); (case cF => k_asm); (case cX => k_asm); (case cT => k_asm); (case ck => first | exact rfl | assumption); (case cXB => assumption); (case cTB => assumption); (case cd => ktr_room); (case cu => ktr_units); (case k1 => first | with_reducible assumption | exact HV.epoch | exact HV.half); (case k2 => omega)); intro D' p' i1' i2' i3' i4' i5' t1' t2' t3' t4' t5' h' tk' hp' hi1' hi2' hi3' hi4' hi5' F' N' l1; (try k_lt l1)))
local macro_rules | `(tactic| walk_at "call ref") => `(tactic| (k_here; (with_reducible show wpAny _ _ (call (Value.ref 86) [_, _, _, _, _]) _ _ _); k_dflt (refine' lc_haab_c (Cx.mk ?cB ?cF ?cX ?cN ?cT ?ck ?cXB ?cTB ?cd ?cu) ?k1 ?k2 ?k3 ?k4 ?k5 ?k6 ?_; (case cN => k_asm); (case cB => k_asm); (case cF => k_asm); (case cX => k_asm); (case cT => k_asm); (case ck => first | exact rfl | assumption); (case cXB => assumption); (case cTB => assumption); (case cd => ktr_room); (case cu => ktr_units); (case k1 => omega); (case k2 => omega); (case k3 => omega); (case k4 => omega); (case k5 => omega); (case k6 => assumption)); intro D' i' j' t2' t3' h' tk' hi' hj' F' N' l1; (try k_lt l1)))
local macro_rules | `(tactic| walk_at "call ref") => `(tactic| (k_here; (with_reducible show wpAny _ _ (call (Value.ref 93) [_, _, _, _, _]) _ _ _); k_dflt (refine' lc_tzol_c (Cx.mk ?cB ?cF ?cX ?cN ?cT ?ck ?cXB ?cTB ?cd ?cu) ?k1 ?k2 ?k3 ?k4 ?k5 ?k6 ?_; (case cN => k_asm); (case cB => k_asm); (case cF => k_asm); (case cX => k_asm); (case cT => k_asm); (case ck => first | exact rfl | assumption); (case cXB => assumption); (case cTB => assumption); (case cd => ktr_room); (case cu => ktr_units); (case k1 => omega); (case k2 => omega); (case k3 => omega); (case k4 => omega); (case k5 => omega); (case k6 => assumption)); intro D' i' j' t2' t3' h' tk' hi' hj' F' N' l1; (try k_lt l1)))
local macro_rules | `(tactic| walk_at "call ref") => `(tactic| (k_here; (with_reducible show wpAny _ _ (call (Value.ref 100) [_, _, _, _, _]) _ _ _); k_dflt (refine' lc_ht_c (Cx.mk ?cB ?cF ?cX ?cN ?cT ?ck ?cXB ?cTB ?cd ?cu) ?k1 ?k2 ?k3 ?k4 ?k5 ?k6 ?_; (case cN => k_asm); (case cB => k_asm); (case cF => k_asm); (case cX => k_asm); (case cT => k_asm); (case ck => first | exact rfl | assumption); (case cXB => assumption); (case cTB => assumption); (case cd => ktr_room); (case cu => ktr_units); (case k1 => omega); (case k2 => omega); (case k3 => omega); (case k4 => omega); (case k5 => omega); (case k6 => assumption)); intro n' j' d' l' tk' h' tk'' hn' hj' hd' hl' F' N'))
theorem len_int {n : Int} (h : 0 ≤ n ∧ n < 1000) : (Str.ofString (toString n)).length ≤ 10 := toString_length_le (k := 10) (by omega) (by decide) (by omega)
theorem len_sp : (Str.ofString " ").length = 1 := by decide +kernel
local macro_rules | `(tactic| walk_at "binaryOp Add str str") => `(tactic| (k_here; (with_reducible show wpAny _ _ (binaryOp _ (Value.str _ _) (Value.str _ _)) _ _ _); (rename (Str.ofString " ").length = 1 => h9); k_dflt (refine' add_str ?_ ?hsz; (case hsz => (simp only [PySem.Str.length_append]; rw [sizeLine_eq]; omega))); intro _ _))
section
variable {w : World} {base : Heap} {mg mb : Str → Option Value} {mean : ExcName → Option Value} {L a : Addr} {cd : Value} {s : Shared} {Q : Flow → Shared → Prop} {E : Value → Shared → Prop} {rest : List Stmt}
set_option maxRecDepth 100000 in
set_option maxHeartbeats 1000000 in
theorem seg8a {l D Tn Hn Yn P En : Addr} {vs : List Value} {c : Nat} {a9 b9 c9 d9 dn dv past r1 kin r2 uin r3 tun bak kat pl z : Int} {nm mo : Str} {ta tb tc td tx t1 t2 t3 t4 t5 t6 t7 t8 u1 u2 u3 u4 u5 u6 u7 u8 tp tq : Tok} {x : UInt64} {oN oP : Obj}
    (X : (Mine.hd.heap_39 w.params).In base) (T : Top p0 loose0 mean mg mb base) (F : Fr base L s.heap (fun y => if y = "there" then some (.ref P) else if y = "here" then some (.ref En) else if y = "place" then some (.int pl tq) else if y = "year" then some (.ref Yn) else if y = "katun" then some (.int kat u8) else if y = "baktun" then some (.int bak u7) else if y = "tun" then some (.int tun u6) else if y = "rest" then some (.int r3 u5) else if y = "uinal" then some (.int uin u4) else if y = "rest" then some (.int r2 u3) else if y = "kin" then some (.int kin u2) else if y = "rest" then some (.int r1 u1) else if y = "haab" then some (.ref Hn) else if y = "day" then some (.int dv t3) else if y = "month" then some (.str mo t4) else if y = "d" then some (.int d9 td) else if y = "c" then some (.int c9 tc) else if y = "b" then some (.int b9 tb) else if y = "a" then some (.int a9 ta) else if y = "number" then some (.float x tx) else if y = "numbers" then some (.ref D) else if y = "script" then some (.ref l) else none))
    (N : News base L s.heap ((En, tup [.int ((past + 3) % 13 + 1) t7, .str (nameAt ((past + 19) % 20)) t8]) :: (P, tup [.int ((348 + past) % 365 % 20) t5, .str (moonAt ((348 + past) % 365 / 20)) t6]) :: (Hn, tup [.int dv t3, .str mo t4]) :: (Tn, tup [.int dn t1, .str nm t2]) :: (D, listOf vs.toArray c) :: (L + 1 + 1, oN) :: (L + 1, oP) :: [(109, tabObj #[]), (130, tabObj #[])]))
    (hp : 0 ≤ past ∧ past < 10000000) (hx : HV x z) (hz : z = 1168565 + 2 * past)
    (b1 : 0 ≤ bak ∧ bak < 1000) (b2 : 0 ≤ kat ∧ kat < 20) (b3 : 0 ≤ tun ∧ tun < 20) (b4 : 0 ≤ uin ∧ uin < 18) (b5 : 0 ≤ kin ∧ kin < 20) (b6 : past = bak * 144000 + kat * 7200 + tun * 360 + uin * 20 + kin)
    (k : ∀ h' tk', Fr base L h' (fun y => if y = "there" then some (.ref P) else if y = "here" then some (.ref En) else if y = "place" then some (.int pl tq) else if y = "year" then some (.ref Yn) else if y = "katun" then some (.int kat u8) else if y = "baktun" then some (.int bak u7) else if y = "tun" then some (.int tun u6) else if y = "rest" then some (.int r3 u5) else if y = "uinal" then some (.int uin u4) else if y = "rest" then some (.int r2 u3) else if y = "kin" then some (.int kin u2) else if y = "rest" then some (.int r1 u1) else if y = "haab" then some (.ref Hn) else if y = "day" then some (.int dv t3) else if y = "month" then some (.str mo t4) else if y = "d" then some (.int d9 td) else if y = "c" then some (.int c9 tc) else if y = "b" then some (.int b9 tb) else if y = "a" then some (.int a9 ta) else if y = "number" then some (.float x tx) else if y = "numbers" then some (.ref D) else if y = "script" then some (.ref l) else none) →
      News base L h' ((En, tup [.int ((past + 3) % 13 + 1) t7, .str (nameAt ((past + 19) % 20)) t8]) :: (P, tup [.int ((348 + past) % 365 % 20) t5, .str (moonAt ((348 + past) % 365 / 20)) t6]) :: (Hn, tup [.int dv t3, .str mo t4]) :: (Tn, tup [.int dn t1, .str nm t2]) :: (D, listOf vs.toArray c) :: (L + 1 + 1, oN) :: (L + 1, oP) :: [(109, tabObj #[]), (130, tabObj #[])]) →
      wpAny (model Challenge.rw_ak5005_01.row.prog w) (callerA.deeper (lawE L a cd)) (execs rest (lawE L a cd)) Q E { s with heap := h', toks := tk' }) :
    wpAny (model Challenge.rw_ak5005_01.row.prog w) (callerA.deeper (lawE L a cd)) (execs ((lawB.drop 19).take 1 ++ rest) (lawE L a cd)) Q E s := by
  (have B : Below callerA base [] base := below_caller _; revert X; k_fill; intro X; have e : lawB = (match Challenge.rw_ak5005_01.prog.main.body.getLast? with | some (.FunctionDef _ _ b _ _ _ _ _ _ _) => b | _ => []) := rfl; dsimp only [Challenge.rw_ak5005_01, Challenge.pw_ak5005_01, List.getLast?, List.getLast] at e; rw [e]; clear e; dsimp only [List.drop, List.take, List.cons_append, List.nil_append]); k_steps
  all_goals first
    | (refine' k _ _ ?g3 ?g4; (case g3 => assumption); (case g4 => exact cb_drop (by assumption) (fun q hq => by (repeat (first | exact hq | refine List.Mem.tail _ ?_)))))
    | (exfalso; (rename ((_ && _) = false) => hf); simp only [Bool.and_eq_false_iff, beq_eq_false_iff_ne, ne_eq] at hf; omega)
    | (exfalso; (rename ((_ != _) = true) => hf); (rename (_ = (past + 348) % 365 % 20) => q3); (rename (_ = (past + 348) % 365 / 20) => q4); (rename (_ = (past + 19) % 20) => q2); (rename (_ = (past + 3) % 13 + 1) => q1); rw [q1, q2, q3, q4, Int.add_comm past 348] at hf; simp at hf; done)
set_option maxRecDepth 100000 in
set_option maxHeartbeats 1000000 in
theorem seg8b {l D Tn Hn Yn P En : Addr} {vs : List Value} {c : Nat} {a9 b9 c9 d9 dn dv past r1 kin r2 uin r3 tun bak kat pl z : Int} {nm mo : Str} {ta tb tc td tx t1 t2 t3 t4 t5 t6 t7 t8 u1 u2 u3 u4 u5 u6 u7 u8 tp tq : Tok} {x : UInt64} {oN oP : Obj}
    (X : (Mine.hd.heap_39 w.params).In base) (T : Top p0 loose0 mean mg mb base) (F : Fr base L s.heap (fun y => if y = "there" then some (.ref P) else if y = "here" then some (.ref En) else if y = "place" then some (.int pl tq) else if y = "year" then some (.ref Yn) else if y = "katun" then some (.int kat u8) else if y = "baktun" then some (.int bak u7) else if y = "tun" then some (.int tun u6) else if y = "rest" then some (.int r3 u5) else if y = "uinal" then some (.int uin u4) else if y = "rest" then some (.int r2 u3) else if y = "kin" then some (.int kin u2) else if y = "rest" then some (.int r1 u1) else if y = "haab" then some (.ref Hn) else if y = "day" then some (.int dv t3) else if y = "month" then some (.str mo t4) else if y = "d" then some (.int d9 td) else if y = "c" then some (.int c9 tc) else if y = "b" then some (.int b9 tb) else if y = "a" then some (.int a9 ta) else if y = "number" then some (.float x tx) else if y = "numbers" then some (.ref D) else if y = "script" then some (.ref l) else none))
    (N : News base L s.heap ((En, tup [.int ((past + 3) % 13 + 1) t7, .str (nameAt ((past + 19) % 20)) t8]) :: (P, tup [.int ((348 + past) % 365 % 20) t5, .str (moonAt ((348 + past) % 365 / 20)) t6]) :: (Hn, tup [.int dv t3, .str mo t4]) :: (Tn, tup [.int dn t1, .str nm t2]) :: (D, listOf vs.toArray c) :: (L + 1 + 1, oN) :: (L + 1, oP) :: [(109, tabObj #[]), (130, tabObj #[])]))
    (hp : 0 ≤ past ∧ past < 10000000) (hx : HV x z) (hz : z = 1168565 + 2 * past)
    (b1 : 0 ≤ bak ∧ bak < 1000) (b2 : 0 ≤ kat ∧ kat < 20) (b3 : 0 ≤ tun ∧ tun < 20) (b4 : 0 ≤ uin ∧ uin < 18) (b5 : 0 ≤ kin ∧ kin < 20) (b6 : past = bak * 144000 + kat * 7200 + tun * 360 + uin * 20 + kin)
    (k : ∀ h' tk', Fr base L h' (fun y => if y = "there" then some (.ref P) else if y = "here" then some (.ref En) else if y = "place" then some (.int pl tq) else if y = "year" then some (.ref Yn) else if y = "katun" then some (.int kat u8) else if y = "baktun" then some (.int bak u7) else if y = "tun" then some (.int tun u6) else if y = "rest" then some (.int r3 u5) else if y = "uinal" then some (.int uin u4) else if y = "rest" then some (.int r2 u3) else if y = "kin" then some (.int kin u2) else if y = "rest" then some (.int r1 u1) else if y = "haab" then some (.ref Hn) else if y = "day" then some (.int dv t3) else if y = "month" then some (.str mo t4) else if y = "d" then some (.int d9 td) else if y = "c" then some (.int c9 tc) else if y = "b" then some (.int b9 tb) else if y = "a" then some (.int a9 ta) else if y = "number" then some (.float x tx) else if y = "numbers" then some (.ref D) else if y = "script" then some (.ref l) else none) →
      News base L h' ((En, tup [.int ((past + 3) % 13 + 1) t7, .str (nameAt ((past + 19) % 20)) t8]) :: (P, tup [.int ((348 + past) % 365 % 20) t5, .str (moonAt ((348 + past) % 365 / 20)) t6]) :: (Hn, tup [.int dv t3, .str mo t4]) :: (Tn, tup [.int dn t1, .str nm t2]) :: (D, listOf vs.toArray c) :: (L + 1 + 1, oN) :: (L + 1, oP) :: [(109, tabObj #[]), (130, tabObj #[])]) →
      wpAny (model Challenge.rw_ak5005_01.row.prog w) (callerA.deeper (lawE L a cd)) (execs rest (lawE L a cd)) Q E { s with heap := h', toks := tk' }) :
    wpAny (model Challenge.rw_ak5005_01.row.prog w) (callerA.deeper (lawE L a cd)) (execs ((lawB.drop 20).take 1 ++ rest) (lawE L a cd)) Q E s := by
  (have B : Below callerA base [] base := below_caller _; revert X; k_fill; intro X; have e : lawB = (match Challenge.rw_ak5005_01.prog.main.body.getLast? with | some (.FunctionDef _ _ b _ _ _ _ _ _ _) => b | _ => []) := rfl; dsimp only [Challenge.rw_ak5005_01, Challenge.pw_ak5005_01, List.getLast?, List.getLast] at e; rw [e]; clear e; dsimp only [List.drop, List.take, List.cons_append, List.nil_append]); k_steps
  all_goals first
    | (refine' k _ _ ?g3 ?g4; (case g3 => assumption); (case g4 => exact cb_drop (by assumption) (fun q hq => by (repeat (first | exact hq | refine List.Mem.tail _ ?_)))))
    | (exfalso; (rename ((_ && _) = false) => hf); simp only [Bool.and_eq_false_iff, beq_eq_false_iff_ne, ne_eq] at hf; omega)
    | (exfalso; (rename ((_ != _) = true) => hf); (rename (_ = (past + 348) % 365 % 20) => q3); (rename (_ = (past + 348) % 365 / 20) => q4); (rename (_ = (past + 19) % 20) => q2); (rename (_ = (past + 3) % 13 + 1) => q1); rw [q1, q2, q3, q4, Int.add_comm past 348] at hf; simp at hf; done)
set_option maxRecDepth 100000 in
set_option maxHeartbeats 1000000 in
theorem seg8c {l D Tn Hn Yn P En : Addr} {vs : List Value} {c : Nat} {a9 b9 c9 d9 dn dv past r1 kin r2 uin r3 tun bak kat pl z : Int} {nm mo : Str} {ta tb tc td tx t1 t2 t3 t4 t5 t6 t7 t8 u1 u2 u3 u4 u5 u6 u7 u8 tp tq : Tok} {x : UInt64} {oN oP : Obj}
    (X : (Mine.hd.heap_39 w.params).In base) (T : Top p0 loose0 mean mg mb base) (F : Fr base L s.heap (fun y => if y = "there" then some (.ref P) else if y = "here" then some (.ref En) else if y = "place" then some (.int pl tq) else if y = "year" then some (.ref Yn) else if y = "katun" then some (.int kat u8) else if y = "baktun" then some (.int bak u7) else if y = "tun" then some (.int tun u6) else if y = "rest" then some (.int r3 u5) else if y = "uinal" then some (.int uin u4) else if y = "rest" then some (.int r2 u3) else if y = "kin" then some (.int kin u2) else if y = "rest" then some (.int r1 u1) else if y = "haab" then some (.ref Hn) else if y = "day" then some (.int dv t3) else if y = "month" then some (.str mo t4) else if y = "d" then some (.int d9 td) else if y = "c" then some (.int c9 tc) else if y = "b" then some (.int b9 tb) else if y = "a" then some (.int a9 ta) else if y = "number" then some (.float x tx) else if y = "numbers" then some (.ref D) else if y = "script" then some (.ref l) else none))
    (N : News base L s.heap ((En, tup [.int ((past + 3) % 13 + 1) t7, .str (nameAt ((past + 19) % 20)) t8]) :: (P, tup [.int ((348 + past) % 365 % 20) t5, .str (moonAt ((348 + past) % 365 / 20)) t6]) :: (Hn, tup [.int dv t3, .str mo t4]) :: (Tn, tup [.int dn t1, .str nm t2]) :: (D, listOf vs.toArray c) :: (L + 1 + 1, oN) :: (L + 1, oP) :: [(109, tabObj #[]), (130, tabObj #[])]))
    (hp : 0 ≤ past ∧ past < 10000000) (hx : HV x z) (hz : z = 1168565 + 2 * past)
    (b1 : 0 ≤ bak ∧ bak < 1000) (b2 : 0 ≤ kat ∧ kat < 20) (b3 : 0 ≤ tun ∧ tun < 20) (b4 : 0 ≤ uin ∧ uin < 18) (b5 : 0 ≤ kin ∧ kin < 20) (b6 : past = bak * 144000 + kat * 7200 + tun * 360 + uin * 20 + kin)
    (k : ∀ h' tk', Fr base L h' (fun y => if y = "there" then some (.ref P) else if y = "here" then some (.ref En) else if y = "place" then some (.int pl tq) else if y = "year" then some (.ref Yn) else if y = "katun" then some (.int kat u8) else if y = "baktun" then some (.int bak u7) else if y = "tun" then some (.int tun u6) else if y = "rest" then some (.int r3 u5) else if y = "uinal" then some (.int uin u4) else if y = "rest" then some (.int r2 u3) else if y = "kin" then some (.int kin u2) else if y = "rest" then some (.int r1 u1) else if y = "haab" then some (.ref Hn) else if y = "day" then some (.int dv t3) else if y = "month" then some (.str mo t4) else if y = "d" then some (.int d9 td) else if y = "c" then some (.int c9 tc) else if y = "b" then some (.int b9 tb) else if y = "a" then some (.int a9 ta) else if y = "number" then some (.float x tx) else if y = "numbers" then some (.ref D) else if y = "script" then some (.ref l) else none) →
      News base L h' ((En, tup [.int ((past + 3) % 13 + 1) t7, .str (nameAt ((past + 19) % 20)) t8]) :: (P, tup [.int ((348 + past) % 365 % 20) t5, .str (moonAt ((348 + past) % 365 / 20)) t6]) :: (Hn, tup [.int dv t3, .str mo t4]) :: (Tn, tup [.int dn t1, .str nm t2]) :: (D, listOf vs.toArray c) :: (L + 1 + 1, oN) :: (L + 1, oP) :: [(109, tabObj #[]), (130, tabObj #[])]) →
      wpAny (model Challenge.rw_ak5005_01.row.prog w) (callerA.deeper (lawE L a cd)) (execs rest (lawE L a cd)) Q E { s with heap := h', toks := tk' }) :
    wpAny (model Challenge.rw_ak5005_01.row.prog w) (callerA.deeper (lawE L a cd)) (execs ((lawB.drop 21).take 1 ++ rest) (lawE L a cd)) Q E s := by
  (have B : Below callerA base [] base := below_caller _; revert X; k_fill; intro X; have e : lawB = (match Challenge.rw_ak5005_01.prog.main.body.getLast? with | some (.FunctionDef _ _ b _ _ _ _ _ _ _) => b | _ => []) := rfl; dsimp only [Challenge.rw_ak5005_01, Challenge.pw_ak5005_01, List.getLast?, List.getLast] at e; rw [e]; clear e; dsimp only [List.drop, List.take, List.cons_append, List.nil_append]); k_steps
  all_goals first
    | (refine' k _ _ ?g3 ?g4; (case g3 => assumption); (case g4 => exact cb_drop (by assumption) (fun q hq => by (repeat (first | exact hq | refine List.Mem.tail _ ?_)))))
    | (exfalso; (rename ((_ && _) = false) => hf); simp only [Bool.and_eq_false_iff, beq_eq_false_iff_ne, ne_eq] at hf; omega)
    | (exfalso; (rename ((_ != _) = true) => hf); (rename (_ = (past + 348) % 365 % 20) => q3); (rename (_ = (past + 348) % 365 / 20) => q4); (rename (_ = (past + 19) % 20) => q2); (rename (_ = (past + 3) % 13 + 1) => q1); rw [q1, q2, q3, q4, Int.add_comm past 348] at hf; simp at hf; done)
set_option maxRecDepth 100000 in
set_option maxHeartbeats 1000000 in
theorem seg8d {l D Tn Hn Yn P En : Addr} {vs : List Value} {c : Nat} {a9 b9 c9 d9 dn dv past r1 kin r2 uin r3 tun bak kat pl z : Int} {nm mo : Str} {ta tb tc td tx t1 t2 t3 t4 t5 t6 t7 t8 u1 u2 u3 u4 u5 u6 u7 u8 tp tq : Tok} {x : UInt64} {oN oP : Obj}
    (X : (Mine.hd.heap_39 w.params).In base) (T : Top p0 loose0 mean mg mb base) (F : Fr base L s.heap (fun y => if y = "there" then some (.ref P) else if y = "here" then some (.ref En) else if y = "place" then some (.int pl tq) else if y = "year" then some (.ref Yn) else if y = "katun" then some (.int kat u8) else if y = "baktun" then some (.int bak u7) else if y = "tun" then some (.int tun u6) else if y = "rest" then some (.int r3 u5) else if y = "uinal" then some (.int uin u4) else if y = "rest" then some (.int r2 u3) else if y = "kin" then some (.int kin u2) else if y = "rest" then some (.int r1 u1) else if y = "haab" then some (.ref Hn) else if y = "day" then some (.int dv t3) else if y = "month" then some (.str mo t4) else if y = "d" then some (.int d9 td) else if y = "c" then some (.int c9 tc) else if y = "b" then some (.int b9 tb) else if y = "a" then some (.int a9 ta) else if y = "number" then some (.float x tx) else if y = "numbers" then some (.ref D) else if y = "script" then some (.ref l) else none))
    (N : News base L s.heap ((En, tup [.int ((past + 3) % 13 + 1) t7, .str (nameAt ((past + 19) % 20)) t8]) :: (P, tup [.int ((348 + past) % 365 % 20) t5, .str (moonAt ((348 + past) % 365 / 20)) t6]) :: (Hn, tup [.int dv t3, .str mo t4]) :: (Tn, tup [.int dn t1, .str nm t2]) :: (D, listOf vs.toArray c) :: (L + 1 + 1, oN) :: (L + 1, oP) :: [(109, tabObj #[]), (130, tabObj #[])]))
    (hp : 0 ≤ past ∧ past < 10000000) (hx : HV x z) (hz : z = 1168565 + 2 * past)
    (b1 : 0 ≤ bak ∧ bak < 1000) (b2 : 0 ≤ kat ∧ kat < 20) (b3 : 0 ≤ tun ∧ tun < 20) (b4 : 0 ≤ uin ∧ uin < 18) (b5 : 0 ≤ kin ∧ kin < 20) (b6 : past = bak * 144000 + kat * 7200 + tun * 360 + uin * 20 + kin)
    (k : ∀ h' tk', Fr base L h' (fun y => if y = "there" then some (.ref P) else if y = "here" then some (.ref En) else if y = "place" then some (.int pl tq) else if y = "year" then some (.ref Yn) else if y = "katun" then some (.int kat u8) else if y = "baktun" then some (.int bak u7) else if y = "tun" then some (.int tun u6) else if y = "rest" then some (.int r3 u5) else if y = "uinal" then some (.int uin u4) else if y = "rest" then some (.int r2 u3) else if y = "kin" then some (.int kin u2) else if y = "rest" then some (.int r1 u1) else if y = "haab" then some (.ref Hn) else if y = "day" then some (.int dv t3) else if y = "month" then some (.str mo t4) else if y = "d" then some (.int d9 td) else if y = "c" then some (.int c9 tc) else if y = "b" then some (.int b9 tb) else if y = "a" then some (.int a9 ta) else if y = "number" then some (.float x tx) else if y = "numbers" then some (.ref D) else if y = "script" then some (.ref l) else none) →
      News base L h' ((En, tup [.int ((past + 3) % 13 + 1) t7, .str (nameAt ((past + 19) % 20)) t8]) :: (P, tup [.int ((348 + past) % 365 % 20) t5, .str (moonAt ((348 + past) % 365 / 20)) t6]) :: (Hn, tup [.int dv t3, .str mo t4]) :: (Tn, tup [.int dn t1, .str nm t2]) :: (D, listOf vs.toArray c) :: (L + 1 + 1, oN) :: (L + 1, oP) :: [(109, tabObj #[]), (130, tabObj #[])]) →
      wpAny (model Challenge.rw_ak5005_01.row.prog w) (callerA.deeper (lawE L a cd)) (execs rest (lawE L a cd)) Q E { s with heap := h', toks := tk' }) :
    wpAny (model Challenge.rw_ak5005_01.row.prog w) (callerA.deeper (lawE L a cd)) (execs ((lawB.drop 22).take 1 ++ rest) (lawE L a cd)) Q E s := by
  have g1 := len_int (n := (past + 3) % 13 + 1) (by omega)
  have g2 := len_int (n := (348 + past) % 365 % 20) (by omega)
  have g3 := nameAt_len (k := (past + 19) % 20) (by omega)
  have g4 := moonAt_len (k := (348 + past) % 365 / 20) (by omega)
  have g5 := len_sp
  (have B : Below callerA base [] base := below_caller _; revert X; k_fill; intro X; have e : lawB = (match Challenge.rw_ak5005_01.prog.main.body.getLast? with | some (.FunctionDef _ _ b _ _ _ _ _ _ _) => b | _ => []) := rfl; dsimp only [Challenge.rw_ak5005_01, Challenge.pw_ak5005_01, List.getLast?, List.getLast] at e; rw [e]; clear e; dsimp only [List.drop, List.take, List.cons_append, List.nil_append]); k_steps
  all_goals first
    | (refine' k _ _ ?g3 ?g4; (case g3 => assumption); (case g4 => exact cb_drop (by assumption) (fun q hq => by (repeat (first | exact hq | refine List.Mem.tail _ ?_)))))
    | (exfalso; (rename ((_ && _) = false) => hf); simp only [Bool.and_eq_false_iff, beq_eq_false_iff_ne, ne_eq] at hf; omega)
    | (exfalso; (rename ((_ != _) = true) => hf); (rename (_ = (past + 348) % 365 % 20) => q3); (rename (_ = (past + 348) % 365 / 20) => q4); (rename (_ = (past + 19) % 20) => q2); (rename (_ = (past + 3) % 13 + 1) => q1); rw [q1, q2, q3, q4, Int.add_comm past 348] at hf; simp at hf; done)
end
/-! part L8 -/
theorem offL8 : True := by
  w_top off
  trivial
section
variable {prog : Program} {w : World} {A : Around} {E : Value → Shared → Prop} {s : Shared} {Q : Value → Shared → Prop} {t u : Tok} {k : Int}
theorem r_nm_nobody (hk : 0 ≤ k ∧ k < 20) (h : Q (.bool false) s) : wpAny (model prog w) A (compareOp .Eq (.str (nameAt k) t) (.str "Nobody" u)) Q E s :=
  eq_str (by rw [beq_false_of_ne (name_ne_nobody hk)]; exact h)
theorem r_mo_nobody (hk : 0 ≤ k ∧ k < 19) (h : Q (.bool false) s) : wpAny (model prog w) A (compareOp .Eq (.str (moonAt k) t) (.str "Nobody" u)) Q E s :=
  eq_str (by rw [beq_false_of_ne (moon_ne_nobody hk)]; exact h)
end
local macro_rules | `(tactic| walk_at "compareOp Eq str str") => `(tactic| (k_here; (with_reducible show wpAny _ _ (compareOp _ (Value.str (nameAt _) _) (Value.str ("Nobody" : Str) _)) _ _ _); k_dflt (refine' r_nm_nobody ?k1 ?_; (case k1 => omega))))
local macro_rules | `(tactic| walk_at "compareOp Eq str str") => `(tactic| (k_here; (with_reducible show wpAny _ _ (compareOp _ (Value.str (moonAt _) _) (Value.str ("Nobody" : Str) _)) _ _ _); k_dflt (refine' r_mo_nobody ?k1 ?_; (case k1 => omega))))
def Wrong (g1 g2 : Prop) (wl : List Value) : Prop :=
  ∃ t t', (g1 ∧ g2 ∧ wl = []) ∨ (¬ g1 ∧ g2 ∧ wl = [.str "IndexError" t]) ∨ (g1 ∧ ¬ g2 ∧ wl = [.str "ValueError" t']) ∨ (¬ g1 ∧ ¬ g2 ∧ wl = [.str "IndexError" t, .str "ValueError" t'])
theorem Wrong.a {g1 g2 : Prop} (h1 : g1) (h2 : g2) : Wrong g1 g2 [] := ⟨0, 0, .inl ⟨h1, h2, rfl⟩⟩
theorem Wrong.b {g1 g2 : Prop} {t : Tok} (h1 : ¬ g1) (h2 : g2) : Wrong g1 g2 [.str "IndexError" t] := ⟨t, 0, .inr (.inl ⟨h1, h2, rfl⟩)⟩
theorem Wrong.c {g1 g2 : Prop} {t : Tok} (h1 : g1) (h2 : ¬ g2) : Wrong g1 g2 [.str "ValueError" t] := ⟨0, t, .inr (.inr (.inl ⟨h1, h2, rfl⟩))⟩
theorem Wrong.d {g1 g2 : Prop} {t t' : Tok} (h1 : ¬ g1) (h2 : ¬ g2) : Wrong g1 g2 [.str "IndexError" t, .str "ValueError" t'] := ⟨t, t', .inr (.inr (.inr ⟨h1, h2, rfl⟩))⟩
section
variable {w : World} {base : Heap} {mg mb : Str → Option Value} {mean : ExcName → Option Value} {L a : Addr} {cd : Value} {s : Shared} {Q : Flow → Shared → Prop} {E : Value → Shared → Prop} {rest : List Stmt}
set_option maxRecDepth 100000 in
set_option maxHeartbeats 1000000 in
theorem seg9a {l D Tn Hn Yn P En Wn : Addr} {vs wn : List Value} {c wc : Nat} {a9 b9 c9 d9 dn dv past r1 kin r2 uin r3 tun bak kat pl z ni mi : Int} {nm mo : Str} {ta tb tc td tx t1 t2 t3 t4 t5 t6 t7 t8 u1 u2 u3 u4 u5 u6 u7 u8 tp tq : Tok} {x : UInt64} {oN oP : Obj}
    (X : (Mine.hd.heap_39 w.params).In base) (T : Top p0 loose0 mean mg mb base) (F : Fr base L s.heap (fun y => if y = "there" then some (.ref P) else if y = "here" then some (.ref En) else if y = "place" then some (.int pl tq) else if y = "year" then some (.ref Yn) else if y = "katun" then some (.int kat u8) else if y = "baktun" then some (.int bak u7) else if y = "tun" then some (.int tun u6) else if y = "rest" then some (.int r3 u5) else if y = "uinal" then some (.int uin u4) else if y = "rest" then some (.int r2 u3) else if y = "kin" then some (.int kin u2) else if y = "rest" then some (.int r1 u1) else if y = "haab" then some (.ref Hn) else if y = "day" then some (.int dv t3) else if y = "month" then some (.str mo t4) else if y = "d" then some (.int d9 td) else if y = "c" then some (.int c9 tc) else if y = "b" then some (.int b9 tb) else if y = "a" then some (.int a9 ta) else if y = "number" then some (.float x tx) else if y = "numbers" then some (.ref D) else if y = "script" then some (.ref l) else none))
    (N : News base L s.heap ((En, tup [.int ((past + 3) % 13 + 1) t7, .str (nameAt ((past + 19) % 20)) t8]) :: (P, tup [.int ((348 + past) % 365 % 20) t5, .str (moonAt ((348 + past) % 365 / 20)) t6]) :: (Hn, tup [.int dv t3, .str mo t4]) :: (Tn, tup [.int dn t1, .str nm t2]) :: (D, listOf vs.toArray c) :: (L + 1 + 1, oN) :: (L + 1, oP) :: [(109, tabObj #[]), (130, tabObj #[])]))
    (hN : oN.data = .cell (some (.ref Tn))) (hm : (0 ≤ ni ∧ ni < 20 ∧ nm = nameAt ni) ∨ (ni = -1 ∧ nm = "Nobody"))
    (k : ∀ h' tk' Wn wn wc, Wrong (1 ≤ dn ∧ dn ≤ 13) (0 ≤ ni) wn → @LT.lt Nat _ 130 Wn → Fr base L h' (fun y => if y = "wrong_names" then some (.ref Wn) else if y = "there" then some (.ref P) else if y = "here" then some (.ref En) else if y = "place" then some (.int pl tq) else if y = "year" then some (.ref Yn) else if y = "katun" then some (.int kat u8) else if y = "baktun" then some (.int bak u7) else if y = "tun" then some (.int tun u6) else if y = "rest" then some (.int r3 u5) else if y = "uinal" then some (.int uin u4) else if y = "rest" then some (.int r2 u3) else if y = "kin" then some (.int kin u2) else if y = "rest" then some (.int r1 u1) else if y = "haab" then some (.ref Hn) else if y = "day" then some (.int dv t3) else if y = "month" then some (.str mo t4) else if y = "d" then some (.int d9 td) else if y = "c" then some (.int c9 tc) else if y = "b" then some (.int b9 tb) else if y = "a" then some (.int a9 ta) else if y = "number" then some (.float x tx) else if y = "numbers" then some (.ref D) else if y = "script" then some (.ref l) else none) →
      News base L h' ((Wn, listOf wn.toArray wc) :: (En, tup [.int ((past + 3) % 13 + 1) t7, .str (nameAt ((past + 19) % 20)) t8]) :: (P, tup [.int ((348 + past) % 365 % 20) t5, .str (moonAt ((348 + past) % 365 / 20)) t6]) :: (Hn, tup [.int dv t3, .str mo t4]) :: (Tn, tup [.int dn t1, .str nm t2]) :: (D, listOf vs.toArray c) :: (L + 1 + 1, oN) :: (L + 1, oP) :: [(109, tabObj #[]), (130, tabObj #[])]) →
      wpAny (model Challenge.rw_ak5005_01.row.prog w) (callerA.deeper (lawE L a cd)) (execs rest (lawE L a cd)) Q E { s with heap := h', toks := tk' }) :
    wpAny (model Challenge.rw_ak5005_01.row.prog w) (callerA.deeper (lawE L a cd)) (execs ((lawB.drop 23).take 1 ++ rest) (lawE L a cd)) Q E s := by
  rcases hm with ⟨hm0, hm1, rfl⟩ | ⟨rfl, rfl⟩
  all_goals (
    (have B : Below callerA base [] base := below_caller _; revert X; k_fill; intro X; have e : lawB = (match Challenge.rw_ak5005_01.prog.main.body.getLast? with | some (.FunctionDef _ _ b _ _ _ _ _ _ _) => b | _ => []) := rfl; dsimp only [Challenge.rw_ak5005_01, Challenge.pw_ak5005_01, List.getLast?, List.getLast] at e; rw [e]; clear e; dsimp only [List.drop, List.take, List.cons_append, List.nil_append]); k_steps
    all_goals (
      refine' k _ _ _ _ _ ?g1 ?g2 ?g3 ?g4
      case g3 => assumption
      case g4 => exact cb_drop (by assumption) (sub_cons (by k_mem) fun q hq => by (repeat (first | exact hq | refine List.Mem.tail _ ?_)))
      case g1 => first | exact Wrong.a (by omega) (by omega) | exact Wrong.b (by omega) (by omega) | exact Wrong.c (by omega) (by omega) | exact Wrong.d (by omega) (by omega)
      case g2 => omega))
set_option maxRecDepth 100000 in
set_option maxHeartbeats 1000000 in
theorem seg9b {l D Tn Hn Yn P En Wn : Addr} {vs wn : List Value} {c wc : Nat} {a9 b9 c9 d9 dn dv past r1 kin r2 uin r3 tun bak kat pl z ni mi : Int} {nm mo : Str} {ta tb tc td tx t1 t2 t3 t4 t5 t6 t7 t8 u1 u2 u3 u4 u5 u6 u7 u8 tp tq : Tok} {x : UInt64} {oN oP : Obj}
    (X : (Mine.hd.heap_39 w.params).In base) (T : Top p0 loose0 mean mg mb base) (F : Fr base L s.heap (fun y => if y = "wrong_names" then some (.ref Wn) else if y = "there" then some (.ref P) else if y = "here" then some (.ref En) else if y = "place" then some (.int pl tq) else if y = "year" then some (.ref Yn) else if y = "katun" then some (.int kat u8) else if y = "baktun" then some (.int bak u7) else if y = "tun" then some (.int tun u6) else if y = "rest" then some (.int r3 u5) else if y = "uinal" then some (.int uin u4) else if y = "rest" then some (.int r2 u3) else if y = "kin" then some (.int kin u2) else if y = "rest" then some (.int r1 u1) else if y = "haab" then some (.ref Hn) else if y = "day" then some (.int dv t3) else if y = "month" then some (.str mo t4) else if y = "d" then some (.int d9 td) else if y = "c" then some (.int c9 tc) else if y = "b" then some (.int b9 tb) else if y = "a" then some (.int a9 ta) else if y = "number" then some (.float x tx) else if y = "numbers" then some (.ref D) else if y = "script" then some (.ref l) else none))
    (N : News base L s.heap ((Wn, listOf wn.toArray wc) :: (En, tup [.int ((past + 3) % 13 + 1) t7, .str (nameAt ((past + 19) % 20)) t8]) :: (P, tup [.int ((348 + past) % 365 % 20) t5, .str (moonAt ((348 + past) % 365 / 20)) t6]) :: (Hn, tup [.int dv t3, .str mo t4]) :: (Tn, tup [.int dn t1, .str nm t2]) :: (D, listOf vs.toArray c) :: (L + 1 + 1, oN) :: (L + 1, oP) :: [(109, tabObj #[]), (130, tabObj #[])])) (hm' : (0 ≤ mi ∧ mi < 19 ∧ mo = moonAt mi) ∨ (mi = -1 ∧ mo = "Nobody"))
    (k : ∀ h' tk' Wh wh wd, Wrong (0 ≤ dv ∧ dv ≤ 19) (0 ≤ mi) wh → @LT.lt Nat _ 130 Wh → Fr base L h' (fun y => if y = "wrong_haab" then some (.ref Wh) else if y = "wrong_names" then some (.ref Wn) else if y = "there" then some (.ref P) else if y = "here" then some (.ref En) else if y = "place" then some (.int pl tq) else if y = "year" then some (.ref Yn) else if y = "katun" then some (.int kat u8) else if y = "baktun" then some (.int bak u7) else if y = "tun" then some (.int tun u6) else if y = "rest" then some (.int r3 u5) else if y = "uinal" then some (.int uin u4) else if y = "rest" then some (.int r2 u3) else if y = "kin" then some (.int kin u2) else if y = "rest" then some (.int r1 u1) else if y = "haab" then some (.ref Hn) else if y = "day" then some (.int dv t3) else if y = "month" then some (.str mo t4) else if y = "d" then some (.int d9 td) else if y = "c" then some (.int c9 tc) else if y = "b" then some (.int b9 tb) else if y = "a" then some (.int a9 ta) else if y = "number" then some (.float x tx) else if y = "numbers" then some (.ref D) else if y = "script" then some (.ref l) else none) →
      News base L h' ((Wh, listOf wh.toArray wd) :: (Wn, listOf wn.toArray wc) :: (En, tup [.int ((past + 3) % 13 + 1) t7, .str (nameAt ((past + 19) % 20)) t8]) :: (P, tup [.int ((348 + past) % 365 % 20) t5, .str (moonAt ((348 + past) % 365 / 20)) t6]) :: (Hn, tup [.int dv t3, .str mo t4]) :: (Tn, tup [.int dn t1, .str nm t2]) :: (D, listOf vs.toArray c) :: (L + 1 + 1, oN) :: (L + 1, oP) :: [(109, tabObj #[]), (130, tabObj #[])]) →
      wpAny (model Challenge.rw_ak5005_01.row.prog w) (callerA.deeper (lawE L a cd)) (execs rest (lawE L a cd)) Q E { s with heap := h', toks := tk' }) :
    wpAny (model Challenge.rw_ak5005_01.row.prog w) (callerA.deeper (lawE L a cd)) (execs ((lawB.drop 24).take 1 ++ rest) (lawE L a cd)) Q E s := by
  rcases hm' with ⟨hm0, hm1, rfl⟩ | ⟨rfl, rfl⟩
  all_goals (
    (have B : Below callerA base [] base := below_caller _; revert X; k_fill; intro X; have e : lawB = (match Challenge.rw_ak5005_01.prog.main.body.getLast? with | some (.FunctionDef _ _ b _ _ _ _ _ _ _) => b | _ => []) := rfl; dsimp only [Challenge.rw_ak5005_01, Challenge.pw_ak5005_01, List.getLast?, List.getLast] at e; rw [e]; clear e; dsimp only [List.drop, List.take, List.cons_append, List.nil_append]); k_steps
    all_goals (
      refine' k _ _ _ _ _ ?g1 ?g2 ?g3 ?g4
      case g3 => assumption
      case g4 => exact cb_drop (by assumption) (sub_cons (by k_mem) (sub_cons (by k_mem) fun q hq => by (repeat (first | exact hq | refine List.Mem.tail _ ?_))))
      case g1 => first | exact Wrong.a (by omega) (by omega) | exact Wrong.b (by omega) (by omega) | exact Wrong.c (by omega) (by omega) | exact Wrong.d (by omega) (by omega)
      case g2 => omega))
end
/-! part Z1 -/
theorem offZ1 : True := by
  w_top off
  trivial
set_option maxRecDepth 100000
open LCg LCt
/-- one turn of the test is done -/
def TurnEnd (h₀ : Heap) (L : Addr) (m : Str → Option Value) (s : Shared) (led : List (Addr × Obj)) (b : Bool) (ok : Bool) (s' : Shared) : Prop :=
  ∃ h' tk', s' = { s with heap := h', toks := tk' } ∧ ok = b ∧ Fr h₀ L h' m ∧ News h₀ L h' led
section
variable {prog : Program} {w : World} {A : Around} {E : Value → Shared → Prop} {s : Shared} {h₀ : Heap} {L : Addr} {m : Str → Option Value} {env : Env}
def FitTurn (prog : Program) (w : World) (A : Around) (h₀ : Heap) (L : Addr) (m : Str → Option Value) (env : Env) (ct : Expr) (x : Str) (scope : Scope) (cl : List (Str × Addr)) (s : Shared) (a c : Int) (n : Nat) (p : Int → Bool) (news : List (Addr × Obj)) : Prop :=
  ∀ (i : Nat) (k : Int) tt I oI C oC D ys m₂ h tk (E' : Value → Shared → Prop), i < n → k = a + (i : Nat) * c → NsObj oC m₂ → m₂ x = some (.int k tt) → Fr h₀ L h m → News h₀ L h ((I, oI) :: (C, oC) :: (D, lst ys) :: news) → Off3 I C D news → ((@Ne Nat I C) ∧ (@Ne Nat I D) ∧ (@Ne Nat C D)) →
    wpAny (model prog w) A (isTrue ct (compEnvC scope cl C env) (eval ct (compEnvC scope cl C env))) (TurnEnd h₀ L m { s with heap := h, toks := tk } ((I, oI) :: (C, oC) :: (D, lst ys) :: news) (p k)) E' { s with heap := h, toks := tk }
def stepList (a c : Int) (i n : Nat) : List Int := (List.range' i n).map fun j => a + (j : Nat) * c
theorem fit_rest {ct : Expr} {x : Str} {px : Pos} {scope : Scope} {cl : List (Str × Addr)} {a c : Int} {n : Nat} {p : Int → Bool} {news : List (Addr × Obj)} {Fin : List Value → List (Addr × Obj) → Prop}
    (hkx : ∀ C, (compEnvC scope cl C env).scope.kind = .function) (hlx : ∀ C, (compEnvC scope cl C env).kindOf x = some .local) (hd : (x == ("__debug__" : Str)) = false)
    (turn : FitTurn prog w A h₀ L m env ct x scope cl s a c n p news) :
    ∀ (k i : Nat) (ys : List Value) (ms : List Int), i + k = n → IntsAre ys ms → (∀ ws, IntsAre ws (ms ++ (stepList a c i k).filter p) → Fin ws news) →
      CompRestT prog w A h₀ L m env ct (.Name x px) x scope cl s (fun _ => True) (fun i v => ∃ t, v = .int (a + (i : Nat) * c) t) Fin k i ys news
  | 0, i, ys, ms, hi, hy, hF => CompRestT.zero (hF ys (by simpa [stepList] using hy))
  | k + 1, i, ys, ms, hi, hy, hF => CompRestT.succ (by
      rintro v I oI C oC D m₂ h tk E' ⟨t, rfl⟩ hC hx F N off ne
      refine wpAny_mono (turn i _ t I oI C oC D ys m₂ h tk E' (by omega) rfl hC hx F N off ne) (fun ok s' ht => ?_) fun _ _ e => e
      obtain ⟨h', tk', rfl, rfl, F', N'⟩ := ht
      cases hp : p (a + (i : Nat) * c) with
      | true =>
        simp only [if_true]
        refine W.LCgL.ld_own N' (.tail _ (.head _)) hC hx ⟨h', tk', news, rfl, F', N', off, trivial, ?_⟩ (hkx C) (hlx C) hd
        refine fit_rest hkx hlx hd turn k (i + 1) _ (ms ++ [a + (i : Nat) * c]) (by omega) (hy.append (.cons _ t .nil)) fun ws hw => hF ws ?_
        have e : (stepList a c i (k + 1)).filter p = (a + (i : Nat) * c) :: (stepList a c (i + 1) k).filter p := by simp [stepList, List.range'_succ, List.filter_cons, hp]
        rw [e]; simpa using hw
      | false =>
        simp only [Bool.false_eq_true, if_false]
        refine ⟨h', tk', news, rfl, F', N', off, trivial, ?_⟩
        refine fit_rest hkx hlx hd turn k (i + 1) _ ms (by omega) hy fun ws hw => hF ws ?_
        have e : (stepList a c i (k + 1)).filter p = (stepList a c (i + 1) k).filter p := by simp [stepList, List.range'_succ, List.filter_cons, hp]
        rw [e]; exact hw)
def FitSrc (prog : Program) (w : World) (A : Around) (h₀ : Heap) (L : Addr) (m : Str → Option Value) (env : Env) (ct : Expr) (x y : Str) (scope : Scope) (cl : List (Str × Addr)) (Q : Flow → Shared → Prop) (xv : Value) (s₁ : Shared) : Prop :=
  ∃ r a b c t u v n news p, xv = .ref r ∧ A.handled = none ∧ Fr h₀ L s₁.heap m ∧ News h₀ L s₁.heap news ∧ IsRange s₁.heap r a b c t u v ∧ Builtin.Range.small a b c = true ∧ Builtin.Range.rangeSize a b c = ((n : Nat) : Int) ∧ n ≤ sizeLine ∧
    (∀ h, FitTurn prog w A h₀ L m env ct x scope cl { s₁ with heap := h } a c n p news) ∧
    ∀ D h' tk ws, Fr h₀ L h' (fun z => if z = y then some (.ref D) else m z) → News h₀ L h' ((D, lst ws) :: news) → Off1 D news → IntsAre ws ((stepList a c 0 n).filter p) → Q .next { s₁ with heap := h', toks := tk }
theorem stepr_st {I : Addr} {a c : Int} {n : Nat} : ∀ i (h h' : Heap) (o : Obj) (nw : List (Addr × Obj)), IsRangeIter h I (a + (i : Nat) * c) ((n : Int) - (i : Nat)) c → h.get? I = some o → h'.get? I = some o → (∀ b o, h₀.get? b = some o → h'.get? b = some o) → News h₀ L h' nw → True → IsRangeIter h' I (a + (i : Nat) * c) ((n : Int) - (i : Nat)) c :=
  fun i h h' o nw st e e' _ _ _ => by
    have st' : h.get? I = some _ := st
    show h'.get? I = some _
    rw [e', ← e]; exact st'
theorem fit_assign {ct iter : Expr} {x y : Str} {px px2 py : Pos} {scope : Scope} {cl : List (Str × Addr)} {pos spos : Pos} {Q : Flow → Shared → Prop} (F₀ : Fr h₀ L s.heap m) (hLe : env.locals = L)
    (hsw : swapsWith (.ListComp (.Name x px2) [⟨.Name x px, iter, [ct], 0⟩] scope pos) (some (.Name y py)) spos.line env = pure true)
    (hclos : closureFor scope env = pure cl) (hcell : ∀ z ∈ scope.names, z.2 ≠ .cell) (hkind : scope.kind = .function)
    (hnames : ∀ z ∈ scope.names, z.2 = .local → scope.names.lookup z.1 = some .local) (hx : scope.names.lookup x = some .local) (hd : (x == ("__debug__" : Str)) = false)
    (hy : env.kindOf y = some .local) (hp : (env.scope.kind == .class || (env.scope.kind == .module && env.locals != env.globals)) = false)
    (h : wpAny (model prog w) A (eval iter env) (fun xv s₁ => FitSrc prog w A h₀ L m env ct x y scope cl Q xv s₁) E s)
    (hs : ∀ x, foldedSetIterable iter env x = pure x := by intro _; rfl) :
    wpAny (model prog w) A (exec (.Assign [.Name y py] (.ListComp (.Name x px2) [⟨.Name x px, iter, [ct], 0⟩] scope pos) spos) env) Q E s := by
  subst hLe
  rw [exec_Assign_Name_used _ _ _ _ hsw]
  refine wpAny_bind (wpAny_standAt (wpAny_bind ?_))
  show wpAny _ A (do let _ ← comprehension (.ListComp (.Name x px2) [⟨.Name x px, iter, [ct], 0⟩] scope pos) scope env _ (newList []) false (eval iter env) (some (assign (.Name y py) env))) _ _ s
  refine wpAny_bind (wpAny_mono (wpAny_comprehension_free (use := some (assign (.Name y py) env)) (Q := fun _ s' => Q .next s') rfl hs hclos hkind hnames
    (wpAny_mono h (fun xv s₁ h₁ => ?_) fun _ _ e => e)) (fun _ s' hq => wpAny_pure (wpAny_pure hq)) fun _ _ e => e)
  obtain ⟨r, a, b, c, t, u, v, n, news, p, rfl, hh, F, N, hr, hsm, hn, hsz, turn, fin⟩ := h₁
  refine wpAny_pyIter_range hr hsm ?_
  let W : Walks prog w A s₁.heap.objs.size [s₁.heap.objs.size] [s₁.heap.objs.size] n (fun i v => ∃ t, v = .int (a + (i : Nat) * c) t) (fun i h => IsRangeIter h s₁.heap.objs.size (a + (i : Nat) * c) ((n : Int) - (i : Nat)) c) := Walks.range hh s₁.heap.objs.size a c n
  refine block_T W hsz (fun i h st => ⟨_, st⟩) stepr_st hcell hkind hx (by show IsRangeIter _ _ _ _ _; rw [hn]; simpa using Heap.get?_push_size _ rfl) (fun b hb => ?_)
    (F.keeps fun _ _ e => Heap.get?_push_of_some _ e) (N.grown fun _ _ e => Heap.get?_push_of_some _ e) (Nat.ne_of_lt F.ns.lt) (next_is_new F) (fun p hp => Nat.ne_of_lt (Heap.lt_size (N p hp).1)) trivial
    (fit_rest (p := p) (Fin := fun ws news' => news' = news ∧ IntsAre ws ((stepList a c 0 n).filter p)) (fun C => by simp [compEnvC, relabel, hkind]) (fun C => lookup_relabel_local hx) hd (turn _) n 0 [] [] (by omega) .nil fun ws hw => ⟨rfl, by simpa using hw⟩) ?_
  · rw [List.mem_singleton.mp hb]
    show s₁.heap.objs.size < (s₁.heap.push _).objs.size
    rw [Heap.size_push]; exact Nat.lt_succ_self _
  · intro D C h' tk m' ys news' F' N' o1 hn hC₀ hD₀ hCL hDL hCD offC fin'
    obtain ⟨rfl, hw⟩ := fin'
    show wpAny _ A (assign (.Name y py) env (.ref D)) _ _ _
    refine wpAny_assign_Name (wpAny_storeName_local hy F'.ns (fun h₂ hn₂ hs₂ => ?_) hp)
    have hL₀ : h₀.get? env.locals = none := Heap.get?_none_of_le F'.above
    have F₂ : Fr h₀ env.locals h₂ (fun z => if z = y then some (.ref D) else m z) := ⟨hn₂, fun b o e => hs₂.extBut b o (fun q => by rw [q, hL₀] at e; cases e) (F'.keep b o e), F'.above⟩
    refine ⟨m', hn.sameBut hs₂ hCL, fun h'' hs'' => fin D h'' _ ys (F₂.change hs'' hCL hC₀) (fun p hp => ?_) o1 hw⟩
    have z : h₂.get? p.1 = some p.2 := hs₂.extBut _ _ (N' p hp).2.1 (N' p hp).1
    refine ⟨hs''.extBut _ _ ?_ z, (N' p hp).2⟩
    rcases List.mem_cons.mp hp with rfl | hp
    · exact Ne.symm hCD
    · exact offC p hp
end
/-! part L9 -/
theorem offL9 : True := by
  w_top off
  trivial
open LCg
theorem led_dis {k W1 W2 E1 P1 D1 L1 L2 : Addr} {o1 o2 o3 o4 o5 o6 o7 : Obj} (h1 : W1 ≠ k) (h2 : W2 ≠ k) (h3 : E1 ≠ k) (h4 : P1 ≠ k) (h5 : D1 ≠ k) (h6 : L1 ≠ k) (h7 : L2 ≠ k) : ∀ q ∈ [(W1, o1), (W2, o2), (E1, o3), (P1, o4), (D1, o5), (L1, o6), (L2, o7)], q.1 ≠ k := by
  intro q hq
  simp only [List.mem_cons, List.not_mem_nil, or_false] at hq
  rcases hq with rfl | rfl | rfl | rfl | rfl | rfl | rfl <;> assumption
local macro_rules | `(tactic| walk_at "call ref") => `(tactic| (k_here; (with_reducible show wpAny _ _ (call (Value.ref 156) [Value.int 0 _, Value.ref _, Value.ref _, Value.float _ _]) _ _ _); k_dflt (refine' asked0_c (mi := 0) (Cx.mk ?cB ?cF ?cX ?cN ?cT ?ck ?cXB ?cTB ?cd ?cu) ?hT ?hT1 ?hH ?hH1 ?hdis ?hdis1 ?htr ?htr1 ?hG ?hx ?hz ?hm (fun y' c' tk' h' gs' d' tk'' ps' hz' hd' hn' hc' hy' ht' G' F' N' => ?_) (fun tk' h' gs' d' tk'' ps' hw' ht' G' F' N' => ?_) (fun tk' h' gs' d' tk'' ps' hz' hw' ht' G' F' N' => ?_); (case cN => assumption); (case cB => k_asm); (case cF => k_asm); (case cX => k_asm); (case cT => k_asm); (case ck => first | exact rfl | assumption); (case cXB => assumption); (case cTB => assumption); (case cd => ktr_room); (case cu => ktr_units); (case hT => (show @Ne Nat _ _; omega)); (case hT1 => (show @Ne Nat _ _; omega)); (case hH => (show @Ne Nat _ _; omega)); (case hH1 => (show @Ne Nat _ _; omega)); (case hdis => exact led_dis (by show @Ne Nat _ _; omega) (by show @Ne Nat _ _; omega) (by show @Ne Nat _ _; omega) (by show @Ne Nat _ _; omega) (by show @Ne Nat _ _; omega) (by show @Ne Nat _ _; omega) (by show @Ne Nat _ _; omega)); (case hdis1 => exact led_dis (by show @Ne Nat _ _; omega) (by show @Ne Nat _ _; omega) (by show @Ne Nat _ _; omega) (by show @Ne Nat _ _; omega) (by show @Ne Nat _ _; omega) (by show @Ne Nat _ _; omega) (by show @Ne Nat _ _; omega)); (case htr => assumption); (case htr1 => assumption); (case hG => assumption); (case hx => first | with_reducible assumption | exact HV.epoch | exact HV.half); (case hz => omega); (case hm => assumption); (try any_goals (exfalso; omega)); k_whole)))
local macro_rules | `(tactic| walk_at "call ref") => `(tactic| (k_here; (with_reducible show wpAny _ _ (call (Value.ref 156) [Value.int 1 _, Value.ref _, Value.ref _, Value.float _ _]) _ _ _); k_dflt (refine' asked1_c (ni := 0) (Cx.mk ?cB ?cF ?cX ?cN ?cT ?ck ?cXB ?cTB ?cd ?cu) ?hx ?hz ?hm (fun y' c' p' tk' h' tk'' hy' hz' hn' hp' hc' F' N' => ?_) (fun tk' h' tk'' hz' F' N' => ?_) (fun tk' h' tk'' hz' hw' F' N' => ?_); (case cN => assumption); (case cB => k_asm); (case cF => k_asm); (case cX => k_asm); (case cT => k_asm); (case ck => first | exact rfl | assumption); (case cXB => assumption); (case cTB => assumption); (case cd => ktr_room); (case cu => ktr_units); (case hx => first | with_reducible assumption | exact HV.epoch | exact HV.half); (case hz => omega); (case hm => assumption); (try any_goals (exfalso; omega)); k_whole)))
local macro_rules | `(tactic| walk_at "call ref") => `(tactic| (k_here; (with_reducible show wpAny _ _ (call (Value.ref 156) [Value.int 2 _, Value.ref _, Value.ref _, Value.float _ _]) _ _ _); k_dflt (refine' asked2_c (Cx.mk ?cB ?cF ?cX ?cN ?cT ?ck ?cXB ?cTB ?cd ?cu) ?hT ?hT1 ?hH ?hH1 ?hdis ?hdis1 ?htr ?htr1 ?hG ?hx ?hz ?hm ?hm1 (fun y' c' tk' h' gs' d' tk'' ps' qs' hd' hn' hdd' hnn' hc' hy' ht' htt' G' F' N' => ?_) (fun tk' h' gs' d' tk'' ps' qs' hw' ht' htt' G' F' N' => ?_) (fun tk' h' gs' d' tk'' ps' qs' hw' ht' htt' G' F' N' => ?_); (case cN => assumption); (case cB => k_asm); (case cF => k_asm); (case cX => k_asm); (case cT => k_asm); (case ck => first | exact rfl | assumption); (case cXB => assumption); (case cTB => assumption); (case cd => ktr_room); (case cu => ktr_units); (case hT => (show @Ne Nat _ _; omega)); (case hT1 => (show @Ne Nat _ _; omega)); (case hH => (show @Ne Nat _ _; omega)); (case hH1 => (show @Ne Nat _ _; omega)); (case hdis => exact led_dis (by show @Ne Nat _ _; omega) (by show @Ne Nat _ _; omega) (by show @Ne Nat _ _; omega) (by show @Ne Nat _ _; omega) (by show @Ne Nat _ _; omega) (by show @Ne Nat _ _; omega) (by show @Ne Nat _ _; omega)); (case hdis1 => exact led_dis (by show @Ne Nat _ _; omega) (by show @Ne Nat _ _; omega) (by show @Ne Nat _ _; omega) (by show @Ne Nat _ _; omega) (by show @Ne Nat _ _; omega) (by show @Ne Nat _ _; omega) (by show @Ne Nat _ _; omega)); (case htr => assumption); (case htr1 => assumption); (case hG => assumption); (case hx => first | with_reducible assumption | exact HV.epoch | exact HV.half); (case hz => omega); (case hm => assumption); (case hm1 => assumption); (try any_goals (exfalso; omega)); k_whole)))
local macro_rules | `(tactic| walk_at "call ref") => `(tactic| (k_here; (with_reducible show wpAny _ _ (call (Value.ref 156) [Value.int 3 _, Value.ref _, Value.ref _, Value.float _ _]) _ _ _); k_dflt (refine' asked3_c (ni := 0) (mi := 0) (Cx.mk ?cB ?cF ?cX ?cN ?cT ?ck ?cXB ?cTB ?cd ?cu) ?hx ?hz (fun tk' h' tk'' F' N' => ?_); (case cN => assumption); (case cB => k_asm); (case cF => k_asm); (case cX => k_asm); (case cT => k_asm); (case ck => first | exact rfl | assumption); (case cXB => assumption); (case cTB => assumption); (case cd => ktr_room); (case cu => ktr_units); (case hx => first | with_reducible assumption | exact HV.epoch | exact HV.half); (case hz => omega); k_whole)))
local macro_rules | `(tactic| walk_at "exec Assign cons ListComp") => `(tactic| (k_here; (with_reducible show wpAny _ _ (exec (Stmt.Assign [Expr.Name ("fits" : Str) _] (Expr.ListComp (Expr.Name _ _) [_] _ _) _) _) _ _ _); k_dflt (refine' fit_assign ?F ?hL ?hsw ?hclos ?hcell ?hkind ?hnames ?hx ?hd ?hy ?hp ?_ ?hs; (case F => k_asm); (case hL => exact rfl); (case hsw => with_unfolding_all rfl); (case hclos => with_unfolding_all rfl); (case hcell => decide); (case hkind => exact rfl); (case hnames => decide); (case hx => exact rfl); (case hd => decide); (case hy => exact rfl); (case hp => exact rfl); (case hs => intro _; exact rfl); k_whole)))
theorem Fr.cast {h₀ h : Heap} {L : Addr} {m m' : Str → Option Value} (F : Fr h₀ L h m) (e : ∀ y, m y = m' y) : Fr h₀ L h m' := (funext e : m = m') ▸ F
section
variable {h₀ h : Heap} {L : Addr} {tv fv tv' fv' : Option Value} {M : Str → Option Value}
theorem fr_told (hM : M "fits" = none) (F : Fr h₀ L h (fun y => if y = "told" then tv else M y)) : Fr h₀ L h (fun y => if y = "told" then tv else if y = "fits" then none else M y) := Fr.cast F fun y => by
  by_cases h1 : y = "told"
  · simp only [h1, if_true]
  · by_cases h2 : y = "fits"
    · subst h2; simp only [if_neg h1, if_true, hM]
    · simp only [if_neg h1, if_neg h2]
theorem fr_fits (F : Fr h₀ L h (fun y => if y = "fits" then fv else if y = "told" then tv else M y)) : Fr h₀ L h (fun y => if y = "told" then tv else if y = "fits" then fv else M y) := Fr.cast F fun y => by
  by_cases h1 : y = "told"
  · subst h1; rfl
  · by_cases h2 : y = "fits"
    · subst h2; rfl
    · simp only [if_neg h1, if_neg h2]
theorem fr_told' (F : Fr h₀ L h (fun y => if y = "told" then tv else if y = "told" then tv' else M y)) : Fr h₀ L h (fun y => if y = "told" then tv else M y) := Fr.cast F fun y => by
  by_cases h1 : y = "told"
  · simp only [h1, if_true]
  · simp only [if_neg h1]
theorem fr_fits' (F : Fr h₀ L h (fun y => if y = "fits" then fv else if y = "told" then tv else if y = "told" then tv' else if y = "fits" then fv' else M y)) : Fr h₀ L h (fun y => if y = "told" then tv else if y = "fits" then fv else M y) := Fr.cast F fun y => by
  by_cases h1 : y = "told"
  · subst h1; rfl
  · by_cases h2 : y = "fits"
    · subst h2; rfl
    · simp only [if_neg h1, if_neg h2]
end
theorem step20 {a : Int} (h : 0 ≤ a ∧ a < 13) : Builtin.Range.small a 260 13 = true ∧ Builtin.Range.rangeSize a 260 13 = ((20 : Nat) : Int) := by
  have : a = 0 ∨ a = 1 ∨ a = 2 ∨ a = 3 ∨ a = 4 ∨ a = 5 ∨ a = 6 ∨ a = 7 ∨ a = 8 ∨ a = 9 ∨ a = 10 ∨ a = 11 ∨ a = 12 := by omega
  rcases this with rfl | rfl | rfl | rfl | rfl | rfl | rfl | rfl | rfl | rfl | rfl | rfl | rfl <;> decide
section
variable {prog : Program} {w : World} {A : Around} {E : Value → Shared → Prop} {s : Shared} {Q : Value → Shared → Prop} {t u : Tok} {k mi : Int}
theorem r_eq_name {mo : Str} (hj : 0 ≤ k ∧ k < 20) (hm : (0 ≤ mi ∧ mi < 20 ∧ mo = nameAt mi) ∨ (mi = -1 ∧ mo = "Nobody")) (h : Q (.bool (decide (k = mi))) s) :
    wpAny (model prog w) A (compareOp .Eq (.str (nameAt k) t) (.str mo u)) Q E s := by
  have e : (nameAt k == mo) = decide (k = mi) := by
    rcases hm with ⟨h0, h1, rfl⟩ | ⟨rfl, rfl⟩
    · by_cases q : k = mi
      · subst q; simp
      · rw [decide_eq_false q]; exact beq_false_of_ne fun z => q (nameAt_inj hj ⟨h0, h1⟩ z)
    · rw [decide_eq_false (by omega)]; exact beq_false_of_ne (name_ne_nobody hj)
  exact eq_str (by rw [e]; exact h)
end
local macro_rules | `(tactic| walk_at "compareOp Eq str str") => `(tactic| (k_here; (with_reducible show wpAny _ _ (compareOp _ (Value.str (nameAt _) _) (Value.str _ _)) _ _ _); k_dflt (refine' r_eq_name ?k1 ?k2 ?_; (case k1 => omega); (case k2 => assumption))))
/-- the head of a filtered row -/
theorem fit_head {ws : List Value} {a c : Int} {n : Nat} {p : Int → Bool} (h : IntsAre ws ((stepList a c 0 n).filter p)) {i : Nat} (hi : i < n) (hp : p (a + (i : Nat) * c) = true) :
    ∃ k t ws' j, ws = .int k t :: ws' ∧ p k = true ∧ j < n ∧ k = a + ((j : Nat) : Int) * c := by
  have hm : a + (i : Nat) * c ∈ (stepList a c 0 n).filter p := List.mem_filter.mpr ⟨List.mem_map.mpr ⟨i, by simp [hi], rfl⟩, hp⟩
  cases hq : (stepList a c 0 n).filter p with
  | nil => rw [hq] at hm; cases hm
  | cons k r =>
    rw [hq] at h
    cases h with | cons _ t h' =>
    have hk : k ∈ (stepList a c 0 n).filter p := by rw [hq]; exact .head _
    obtain ⟨h1, h2⟩ := List.mem_filter.mp hk
    obtain ⟨j, hj, e⟩ := List.mem_map.mp h1
    exact ⟨k, t, _, j, rfl, h2, by simpa using hj, e.symm⟩
section
variable {w : World} {base : Heap} {mg mb : Str → Option Value} {mean : ExcName → Option Value} {L a : Addr} {cd : Value} {s : Shared} {Q : Flow → Shared → Prop} {E : Value → Shared → Prop} {rest : List Stmt}
set_option maxRecDepth 100000 in
set_option maxHeartbeats 1000000 in
theorem seg10b {l D Tn Hn Yn P En Wn Wh : Addr} {vs wh : List Value} {c wc wd : Nat} {a9 b9 c9 d9 dn dv past r1 kin r2 uin r3 tun bak kat pl z ni mi : Int} {nm mo : Str} {ta tb tc td tx t1 t2 t3 t4 t5 t6 t7 t8 u1 u2 u3 u4 u5 u6 u7 u8 tp tq : Tok} {x : UInt64} {oN oP : Obj} {ps qs : Array Value} {w1 w2 : Tok}
    (X : (Mine.hd.heap_39 w.params).In base) (T : Top p0 loose0 mean mg mb base) (F : Fr base L s.heap (fun y => if y = "wrong_haab" then some (.ref Wh) else if y = "wrong_names" then some (.ref Wn) else if y = "there" then some (.ref P) else if y = "here" then some (.ref En) else if y = "place" then some (.int pl tq) else if y = "year" then some (.ref Yn) else if y = "katun" then some (.int kat u8) else if y = "baktun" then some (.int bak u7) else if y = "tun" then some (.int tun u6) else if y = "rest" then some (.int r3 u5) else if y = "uinal" then some (.int uin u4) else if y = "rest" then some (.int r2 u3) else if y = "kin" then some (.int kin u2) else if y = "rest" then some (.int r1 u1) else if y = "haab" then some (.ref Hn) else if y = "day" then some (.int dv t3) else if y = "month" then some (.str mo t4) else if y = "d" then some (.int d9 td) else if y = "c" then some (.int c9 tc) else if y = "b" then some (.int b9 tb) else if y = "a" then some (.int a9 ta) else if y = "number" then some (.float x tx) else if y = "numbers" then some (.ref D) else if y = "script" then some (.ref l) else none))
    (N : News base L s.heap ((130, tabObj qs) :: (109, tabObj ps) :: (Tn, tup [.int dn t1, .str nm t2]) :: (Hn, tup [.int dv t3, .str mo t4]) :: (Wh, listOf wh.toArray wd) :: (Wn, listOf [Value.str "IndexError" w1].toArray wc) :: (En, tup [.int ((past + 3) % 13 + 1) t7, .str (nameAt ((past + 19) % 20)) t8]) :: (P, tup [.int ((348 + past) % 365 % 20) t5, .str (moonAt ((348 + past) % 365 / 20)) t6]) :: (D, listOf vs.toArray c) :: (L + 1 + 1, oN) :: (L + 1, oP) :: []))
    (q1 : @LT.lt Nat _ 130 Tn) (q2 : @LT.lt Nat _ 130 Hn) (q3 : @LT.lt Nat _ 130 Wh) (q4 : @LT.lt Nat _ 130 Wn) (q5 : @LT.lt Nat _ 130 En) (q6 : @LT.lt Nat _ 130 P) (q7 : @LT.lt Nat _ 130 D) (q8 : @LT.lt Nat _ 130 L) (htr : TriplesOk ps.toList) (htr' : TriplesOk qs.toList) (G : AllBare s.gens)
    (hN : oN.data = .cell (some (.ref Tn))) (hP : oP.data = .cell (some (.int past tp))) (hp : 0 ≤ past ∧ past < 10000000) (hx : HV x z) (hz : z = 1168565 + 2 * past) (hm : (0 ≤ ni ∧ ni < 20 ∧ nm = nameAt ni) ∨ (ni = -1 ∧ nm = "Nobody"))
    (g1 : ¬ (1 ≤ dn ∧ dn ≤ 13)) (g2 : 0 ≤ ni)
    (k : ∀ h' gs d' tk' ps' tv fv, TriplesOk ps'.toList → AllBare gs → Fr base L h' (fun y => if y = "told" then tv else if y = "fits" then fv else if y = "wrong_haab" then some (.ref Wh) else if y = "wrong_names" then some (.ref Wn) else if y = "there" then some (.ref P) else if y = "here" then some (.ref En) else if y = "place" then some (.int pl tq) else if y = "year" then some (.ref Yn) else if y = "katun" then some (.int kat u8) else if y = "baktun" then some (.int bak u7) else if y = "tun" then some (.int tun u6) else if y = "rest" then some (.int r3 u5) else if y = "uinal" then some (.int uin u4) else if y = "rest" then some (.int r2 u3) else if y = "kin" then some (.int kin u2) else if y = "rest" then some (.int r1 u1) else if y = "haab" then some (.ref Hn) else if y = "day" then some (.int dv t3) else if y = "month" then some (.str mo t4) else if y = "d" then some (.int d9 td) else if y = "c" then some (.int c9 tc) else if y = "b" then some (.int b9 tb) else if y = "a" then some (.int a9 ta) else if y = "number" then some (.float x tx) else if y = "numbers" then some (.ref D) else if y = "script" then some (.ref l) else none) →
      News base L h' ((130, tabObj qs) :: (109, tabObj ps') :: (Tn, tup [.int dn t1, .str nm t2]) :: (Hn, tup [.int dv t3, .str mo t4]) :: (Wh, listOf wh.toArray wd) :: (Wn, listOf [Value.str "IndexError" w1].toArray wc) :: (En, tup [.int ((past + 3) % 13 + 1) t7, .str (nameAt ((past + 19) % 20)) t8]) :: (P, tup [.int ((348 + past) % 365 % 20) t5, .str (moonAt ((348 + past) % 365 / 20)) t6]) :: (D, listOf vs.toArray c) :: (L + 1 + 1, oN) :: (L + 1, oP) :: []) →
      wpAny (model Challenge.rw_ak5005_01.row.prog w) (callerA.deeper (lawE L a cd)) (execs rest (lawE L a cd)) Q E { s with heap := h', gens := gs, drawn := d', toks := tk' }) :
    wpAny (model Challenge.rw_ak5005_01.row.prog w) (callerA.deeper (lawE L a cd)) (execs ((lawB.drop 25).take 2 ++ rest) (lawE L a cd)) Q E s := by
  (have B : Below callerA base [] base := below_caller _; revert X; k_fill; intro X; have e : lawB = (match Challenge.rw_ak5005_01.prog.main.body.getLast? with | some (.FunctionDef _ _ b _ _ _ _ _ _ _) => b | _ => []) := rfl; dsimp only [Challenge.rw_ak5005_01, Challenge.pw_ak5005_01, List.getLast?, List.getLast] at e; rw [e]; clear e; dsimp only [List.drop, List.take, List.cons_append, List.nil_append]); k_steps
  all_goals (
    rename Fr _ _ _ _ => F9
    have F9 := fr_told rfl F9
    refine' k _ _ _ _ _ _ _ ?e1 ?e2 ?e3 ?e4
    case e4 => exact cb_drop (by assumption) (by intro q hq; (repeat (first | exact hq | refine List.Mem.tail _ ?_)))
    case e3 => assumption
    case e1 => assumption
    case e2 => assumption)
set_option maxRecDepth 100000 in
set_option maxHeartbeats 1000000 in
theorem seg10c {l D Tn Hn Yn P En Wn Wh : Addr} {vs wh : List Value} {c wc wd : Nat} {a9 b9 c9 d9 dn dv past r1 kin r2 uin r3 tun bak kat pl z ni mi : Int} {nm mo : Str} {ta tb tc td tx t1 t2 t3 t4 t5 t6 t7 t8 u1 u2 u3 u4 u5 u6 u7 u8 tp tq : Tok} {x : UInt64} {oN oP : Obj} {ps qs : Array Value} {w1 w2 : Tok}
    (X : (Mine.hd.heap_39 w.params).In base) (T : Top p0 loose0 mean mg mb base) (F : Fr base L s.heap (fun y => if y = "wrong_haab" then some (.ref Wh) else if y = "wrong_names" then some (.ref Wn) else if y = "there" then some (.ref P) else if y = "here" then some (.ref En) else if y = "place" then some (.int pl tq) else if y = "year" then some (.ref Yn) else if y = "katun" then some (.int kat u8) else if y = "baktun" then some (.int bak u7) else if y = "tun" then some (.int tun u6) else if y = "rest" then some (.int r3 u5) else if y = "uinal" then some (.int uin u4) else if y = "rest" then some (.int r2 u3) else if y = "kin" then some (.int kin u2) else if y = "rest" then some (.int r1 u1) else if y = "haab" then some (.ref Hn) else if y = "day" then some (.int dv t3) else if y = "month" then some (.str mo t4) else if y = "d" then some (.int d9 td) else if y = "c" then some (.int c9 tc) else if y = "b" then some (.int b9 tb) else if y = "a" then some (.int a9 ta) else if y = "number" then some (.float x tx) else if y = "numbers" then some (.ref D) else if y = "script" then some (.ref l) else none))
    (N : News base L s.heap ((130, tabObj qs) :: (109, tabObj ps) :: (Tn, tup [.int dn t1, .str nm t2]) :: (Hn, tup [.int dv t3, .str mo t4]) :: (Wh, listOf wh.toArray wd) :: (Wn, listOf [Value.str "ValueError" w2].toArray wc) :: (En, tup [.int ((past + 3) % 13 + 1) t7, .str (nameAt ((past + 19) % 20)) t8]) :: (P, tup [.int ((348 + past) % 365 % 20) t5, .str (moonAt ((348 + past) % 365 / 20)) t6]) :: (D, listOf vs.toArray c) :: (L + 1 + 1, oN) :: (L + 1, oP) :: []))
    (q1 : @LT.lt Nat _ 130 Tn) (q2 : @LT.lt Nat _ 130 Hn) (q3 : @LT.lt Nat _ 130 Wh) (q4 : @LT.lt Nat _ 130 Wn) (q5 : @LT.lt Nat _ 130 En) (q6 : @LT.lt Nat _ 130 P) (q7 : @LT.lt Nat _ 130 D) (q8 : @LT.lt Nat _ 130 L) (htr : TriplesOk ps.toList) (htr' : TriplesOk qs.toList) (G : AllBare s.gens)
    (hN : oN.data = .cell (some (.ref Tn))) (hP : oP.data = .cell (some (.int past tp))) (hp : 0 ≤ past ∧ past < 10000000) (hx : HV x z) (hz : z = 1168565 + 2 * past) (hm : (0 ≤ ni ∧ ni < 20 ∧ nm = nameAt ni) ∨ (ni = -1 ∧ nm = "Nobody"))
    (g1 : 1 ≤ dn ∧ dn ≤ 13) (g2 : ¬ 0 ≤ ni)
    (k : ∀ h' gs d' tk' ps' tv fv, TriplesOk ps'.toList → AllBare gs → Fr base L h' (fun y => if y = "told" then tv else if y = "fits" then fv else if y = "wrong_haab" then some (.ref Wh) else if y = "wrong_names" then some (.ref Wn) else if y = "there" then some (.ref P) else if y = "here" then some (.ref En) else if y = "place" then some (.int pl tq) else if y = "year" then some (.ref Yn) else if y = "katun" then some (.int kat u8) else if y = "baktun" then some (.int bak u7) else if y = "tun" then some (.int tun u6) else if y = "rest" then some (.int r3 u5) else if y = "uinal" then some (.int uin u4) else if y = "rest" then some (.int r2 u3) else if y = "kin" then some (.int kin u2) else if y = "rest" then some (.int r1 u1) else if y = "haab" then some (.ref Hn) else if y = "day" then some (.int dv t3) else if y = "month" then some (.str mo t4) else if y = "d" then some (.int d9 td) else if y = "c" then some (.int c9 tc) else if y = "b" then some (.int b9 tb) else if y = "a" then some (.int a9 ta) else if y = "number" then some (.float x tx) else if y = "numbers" then some (.ref D) else if y = "script" then some (.ref l) else none) →
      News base L h' ((130, tabObj qs) :: (109, tabObj ps') :: (Tn, tup [.int dn t1, .str nm t2]) :: (Hn, tup [.int dv t3, .str mo t4]) :: (Wh, listOf wh.toArray wd) :: (Wn, listOf [Value.str "ValueError" w2].toArray wc) :: (En, tup [.int ((past + 3) % 13 + 1) t7, .str (nameAt ((past + 19) % 20)) t8]) :: (P, tup [.int ((348 + past) % 365 % 20) t5, .str (moonAt ((348 + past) % 365 / 20)) t6]) :: (D, listOf vs.toArray c) :: (L + 1 + 1, oN) :: (L + 1, oP) :: []) →
      wpAny (model Challenge.rw_ak5005_01.row.prog w) (callerA.deeper (lawE L a cd)) (execs rest (lawE L a cd)) Q E { s with heap := h', gens := gs, drawn := d', toks := tk' }) :
    wpAny (model Challenge.rw_ak5005_01.row.prog w) (callerA.deeper (lawE L a cd)) (execs ((lawB.drop 25).take 2 ++ rest) (lawE L a cd)) Q E s := by
  (have B : Below callerA base [] base := below_caller _; revert X; k_fill; intro X; have e : lawB = (match Challenge.rw_ak5005_01.prog.main.body.getLast? with | some (.FunctionDef _ _ b _ _ _ _ _ _ _) => b | _ => []) := rfl; dsimp only [Challenge.rw_ak5005_01, Challenge.pw_ak5005_01, List.getLast?, List.getLast] at e; rw [e]; clear e; dsimp only [List.drop, List.take, List.cons_append, List.nil_append]); k_steps
  all_goals (
    rename Fr _ _ _ _ => F9
    have F9 := fr_told rfl F9
    refine' k _ _ _ _ _ _ _ ?e1 ?e2 ?e3 ?e4
    case e4 => exact cb_drop (by assumption) (by intro q hq; (repeat (first | exact hq | refine List.Mem.tail _ ?_)))
    case e3 => assumption
    case e1 => assumption
    case e2 => assumption)
set_option maxRecDepth 100000 in
set_option maxHeartbeats 1000000 in
theorem seg10d {l D Tn Hn Yn P En Wn Wh : Addr} {vs wh : List Value} {c wc wd : Nat} {a9 b9 c9 d9 dn dv past r1 kin r2 uin r3 tun bak kat pl z ni mi : Int} {nm mo : Str} {ta tb tc td tx t1 t2 t3 t4 t5 t6 t7 t8 u1 u2 u3 u4 u5 u6 u7 u8 tp tq : Tok} {x : UInt64} {oN oP : Obj} {ps qs : Array Value} {w1 w2 : Tok}
    (X : (Mine.hd.heap_39 w.params).In base) (T : Top p0 loose0 mean mg mb base) (F : Fr base L s.heap (fun y => if y = "wrong_haab" then some (.ref Wh) else if y = "wrong_names" then some (.ref Wn) else if y = "there" then some (.ref P) else if y = "here" then some (.ref En) else if y = "place" then some (.int pl tq) else if y = "year" then some (.ref Yn) else if y = "katun" then some (.int kat u8) else if y = "baktun" then some (.int bak u7) else if y = "tun" then some (.int tun u6) else if y = "rest" then some (.int r3 u5) else if y = "uinal" then some (.int uin u4) else if y = "rest" then some (.int r2 u3) else if y = "kin" then some (.int kin u2) else if y = "rest" then some (.int r1 u1) else if y = "haab" then some (.ref Hn) else if y = "day" then some (.int dv t3) else if y = "month" then some (.str mo t4) else if y = "d" then some (.int d9 td) else if y = "c" then some (.int c9 tc) else if y = "b" then some (.int b9 tb) else if y = "a" then some (.int a9 ta) else if y = "number" then some (.float x tx) else if y = "numbers" then some (.ref D) else if y = "script" then some (.ref l) else none))
    (N : News base L s.heap ((130, tabObj qs) :: (109, tabObj ps) :: (Tn, tup [.int dn t1, .str nm t2]) :: (Hn, tup [.int dv t3, .str mo t4]) :: (Wh, listOf wh.toArray wd) :: (Wn, listOf [Value.str "IndexError" w1, Value.str "ValueError" w2].toArray wc) :: (En, tup [.int ((past + 3) % 13 + 1) t7, .str (nameAt ((past + 19) % 20)) t8]) :: (P, tup [.int ((348 + past) % 365 % 20) t5, .str (moonAt ((348 + past) % 365 / 20)) t6]) :: (D, listOf vs.toArray c) :: (L + 1 + 1, oN) :: (L + 1, oP) :: []))
    (q1 : @LT.lt Nat _ 130 Tn) (q2 : @LT.lt Nat _ 130 Hn) (q3 : @LT.lt Nat _ 130 Wh) (q4 : @LT.lt Nat _ 130 Wn) (q5 : @LT.lt Nat _ 130 En) (q6 : @LT.lt Nat _ 130 P) (q7 : @LT.lt Nat _ 130 D) (q8 : @LT.lt Nat _ 130 L) (htr : TriplesOk ps.toList) (htr' : TriplesOk qs.toList) (G : AllBare s.gens)
    (hN : oN.data = .cell (some (.ref Tn))) (hP : oP.data = .cell (some (.int past tp))) (hp : 0 ≤ past ∧ past < 10000000) (hx : HV x z) (hz : z = 1168565 + 2 * past) (hm : (0 ≤ ni ∧ ni < 20 ∧ nm = nameAt ni) ∨ (ni = -1 ∧ nm = "Nobody"))
    (g1 : ¬ (1 ≤ dn ∧ dn ≤ 13)) (g2 : ¬ 0 ≤ ni)
    (k : ∀ h' gs d' tk' ps' tv fv, TriplesOk ps'.toList → AllBare gs → Fr base L h' (fun y => if y = "told" then tv else if y = "fits" then fv else if y = "wrong_haab" then some (.ref Wh) else if y = "wrong_names" then some (.ref Wn) else if y = "there" then some (.ref P) else if y = "here" then some (.ref En) else if y = "place" then some (.int pl tq) else if y = "year" then some (.ref Yn) else if y = "katun" then some (.int kat u8) else if y = "baktun" then some (.int bak u7) else if y = "tun" then some (.int tun u6) else if y = "rest" then some (.int r3 u5) else if y = "uinal" then some (.int uin u4) else if y = "rest" then some (.int r2 u3) else if y = "kin" then some (.int kin u2) else if y = "rest" then some (.int r1 u1) else if y = "haab" then some (.ref Hn) else if y = "day" then some (.int dv t3) else if y = "month" then some (.str mo t4) else if y = "d" then some (.int d9 td) else if y = "c" then some (.int c9 tc) else if y = "b" then some (.int b9 tb) else if y = "a" then some (.int a9 ta) else if y = "number" then some (.float x tx) else if y = "numbers" then some (.ref D) else if y = "script" then some (.ref l) else none) →
      News base L h' ((130, tabObj qs) :: (109, tabObj ps') :: (Tn, tup [.int dn t1, .str nm t2]) :: (Hn, tup [.int dv t3, .str mo t4]) :: (Wh, listOf wh.toArray wd) :: (Wn, listOf [Value.str "IndexError" w1, Value.str "ValueError" w2].toArray wc) :: (En, tup [.int ((past + 3) % 13 + 1) t7, .str (nameAt ((past + 19) % 20)) t8]) :: (P, tup [.int ((348 + past) % 365 % 20) t5, .str (moonAt ((348 + past) % 365 / 20)) t6]) :: (D, listOf vs.toArray c) :: (L + 1 + 1, oN) :: (L + 1, oP) :: []) →
      wpAny (model Challenge.rw_ak5005_01.row.prog w) (callerA.deeper (lawE L a cd)) (execs rest (lawE L a cd)) Q E { s with heap := h', gens := gs, drawn := d', toks := tk' }) :
    wpAny (model Challenge.rw_ak5005_01.row.prog w) (callerA.deeper (lawE L a cd)) (execs ((lawB.drop 25).take 2 ++ rest) (lawE L a cd)) Q E s := by
  (have B : Below callerA base [] base := below_caller _; revert X; k_fill; intro X; have e : lawB = (match Challenge.rw_ak5005_01.prog.main.body.getLast? with | some (.FunctionDef _ _ b _ _ _ _ _ _ _) => b | _ => []) := rfl; dsimp only [Challenge.rw_ak5005_01, Challenge.pw_ak5005_01, List.getLast?, List.getLast] at e; rw [e]; clear e; dsimp only [List.drop, List.take, List.cons_append, List.nil_append]); k_steps
  all_goals (
    rename Fr _ _ _ _ => F9
    have F9 := fr_told rfl F9
    refine' k _ _ _ _ _ _ _ ?e1 ?e2 ?e3 ?e4
    case e4 => exact cb_drop (by assumption) (by intro q hq; (repeat (first | exact hq | refine List.Mem.tail _ ?_)))
    case e3 => assumption
    case e1 => assumption
    case e2 => assumption)
set_option maxRecDepth 100000 in
set_option maxHeartbeats 1000000 in
theorem seg10a {l D Tn Hn Yn P En Wn Wh : Addr} {vs wh : List Value} {c wc wd : Nat} {a9 b9 c9 d9 dn dv past r1 kin r2 uin r3 tun bak kat pl z ni mi : Int} {nm mo : Str} {ta tb tc td tx t1 t2 t3 t4 t5 t6 t7 t8 u1 u2 u3 u4 u5 u6 u7 u8 tp tq : Tok} {x : UInt64} {oN oP : Obj} {ps qs : Array Value} {w1 w2 : Tok}
    (X : (Mine.hd.heap_39 w.params).In base) (T : Top p0 loose0 mean mg mb base) (F : Fr base L s.heap (fun y => if y = "wrong_haab" then some (.ref Wh) else if y = "wrong_names" then some (.ref Wn) else if y = "there" then some (.ref P) else if y = "here" then some (.ref En) else if y = "place" then some (.int pl tq) else if y = "year" then some (.ref Yn) else if y = "katun" then some (.int kat u8) else if y = "baktun" then some (.int bak u7) else if y = "tun" then some (.int tun u6) else if y = "rest" then some (.int r3 u5) else if y = "uinal" then some (.int uin u4) else if y = "rest" then some (.int r2 u3) else if y = "kin" then some (.int kin u2) else if y = "rest" then some (.int r1 u1) else if y = "haab" then some (.ref Hn) else if y = "day" then some (.int dv t3) else if y = "month" then some (.str mo t4) else if y = "d" then some (.int d9 td) else if y = "c" then some (.int c9 tc) else if y = "b" then some (.int b9 tb) else if y = "a" then some (.int a9 ta) else if y = "number" then some (.float x tx) else if y = "numbers" then some (.ref D) else if y = "script" then some (.ref l) else none))
    (N : News base L s.heap ((130, tabObj qs) :: (109, tabObj ps) :: (Tn, tup [.int dn t1, .str nm t2]) :: (Hn, tup [.int dv t3, .str mo t4]) :: (Wh, listOf wh.toArray wd) :: (Wn, listOf [].toArray wc) :: (En, tup [.int ((past + 3) % 13 + 1) t7, .str (nameAt ((past + 19) % 20)) t8]) :: (P, tup [.int ((348 + past) % 365 % 20) t5, .str (moonAt ((348 + past) % 365 / 20)) t6]) :: (D, listOf vs.toArray c) :: (L + 1 + 1, oN) :: (L + 1, oP) :: []))
    (q1 : @LT.lt Nat _ 130 Tn) (q2 : @LT.lt Nat _ 130 Hn) (q3 : @LT.lt Nat _ 130 Wh) (q4 : @LT.lt Nat _ 130 Wn) (q5 : @LT.lt Nat _ 130 En) (q6 : @LT.lt Nat _ 130 P) (q7 : @LT.lt Nat _ 130 D) (q8 : @LT.lt Nat _ 130 L) (htr : TriplesOk ps.toList) (htr' : TriplesOk qs.toList) (G : AllBare s.gens)
    (hN : oN.data = .cell (some (.ref Tn))) (hP : oP.data = .cell (some (.int past tp))) (hp : 0 ≤ past ∧ past < 10000000) (hx : HV x z) (hz : z = 1168565 + 2 * past) (hm : (0 ≤ ni ∧ ni < 20 ∧ nm = nameAt ni) ∨ (ni = -1 ∧ nm = "Nobody"))
    (g1 : 1 ≤ dn ∧ dn ≤ 13) (g2 : 0 ≤ ni)
    (k : ∀ h' gs d' tk' ps' tv fv, TriplesOk ps'.toList → AllBare gs → Fr base L h' (fun y => if y = "told" then tv else if y = "fits" then fv else if y = "wrong_haab" then some (.ref Wh) else if y = "wrong_names" then some (.ref Wn) else if y = "there" then some (.ref P) else if y = "here" then some (.ref En) else if y = "place" then some (.int pl tq) else if y = "year" then some (.ref Yn) else if y = "katun" then some (.int kat u8) else if y = "baktun" then some (.int bak u7) else if y = "tun" then some (.int tun u6) else if y = "rest" then some (.int r3 u5) else if y = "uinal" then some (.int uin u4) else if y = "rest" then some (.int r2 u3) else if y = "kin" then some (.int kin u2) else if y = "rest" then some (.int r1 u1) else if y = "haab" then some (.ref Hn) else if y = "day" then some (.int dv t3) else if y = "month" then some (.str mo t4) else if y = "d" then some (.int d9 td) else if y = "c" then some (.int c9 tc) else if y = "b" then some (.int b9 tb) else if y = "a" then some (.int a9 ta) else if y = "number" then some (.float x tx) else if y = "numbers" then some (.ref D) else if y = "script" then some (.ref l) else none) →
      News base L h' ((130, tabObj qs) :: (109, tabObj ps') :: (Tn, tup [.int dn t1, .str nm t2]) :: (Hn, tup [.int dv t3, .str mo t4]) :: (Wh, listOf wh.toArray wd) :: (Wn, listOf [].toArray wc) :: (En, tup [.int ((past + 3) % 13 + 1) t7, .str (nameAt ((past + 19) % 20)) t8]) :: (P, tup [.int ((348 + past) % 365 % 20) t5, .str (moonAt ((348 + past) % 365 / 20)) t6]) :: (D, listOf vs.toArray c) :: (L + 1 + 1, oN) :: (L + 1, oP) :: []) →
      wpAny (model Challenge.rw_ak5005_01.row.prog w) (callerA.deeper (lawE L a cd)) (execs rest (lawE L a cd)) Q E { s with heap := h', gens := gs, drawn := d', toks := tk' }) :
    wpAny (model Challenge.rw_ak5005_01.row.prog w) (callerA.deeper (lawE L a cd)) (execs ((lawB.drop 25).take 2 ++ rest) (lawE L a cd)) Q E s := by
  (have B : Below callerA base [] base := below_caller _; revert X; k_fill; intro X; have e : lawB = (match Challenge.rw_ak5005_01.prog.main.body.getLast? with | some (.FunctionDef _ _ b _ _ _ _ _ _ _) => b | _ => []) := rfl; dsimp only [Challenge.rw_ak5005_01, Challenge.pw_ak5005_01, List.getLast?, List.getLast] at e; rw [e]; clear e; dsimp only [List.drop, List.take, List.cons_append, List.nil_append]); k_steps
  (rename (_ = (dn - 4 - past) % 13) => hc9)
  refine ⟨_, _, _, _, _, _, _, 20, _, fun k => decide ((past + k + 19) % 20 = ni), rfl, rfl, by assumption, by assumption, by assumption, (step20 (by omega)).1, (step20 (by omega)).2, by decide, ?turn, ?fin⟩
  case turn =>
    intro h9 i9 k9 tt9 I9 oI9 C9 oC9 D9 ys9 m9 hh9 tk9 E9 hi9 hk9 hC9 hx9 F9 N9 off9 ne9
    simp only [LCg.Off3, and_true] at off9
    k_steps
    refine ⟨_, _, rfl, ?_, by assumption, cb_drop (by assumption) (by intro q hq; (repeat (first | exact hq | refine List.Mem.tail _ ?_)))⟩
    exact decide_eq_decide.mpr (by omega)
  case fin =>
    intro D9 h9 tk9 ws9 F9 N9 o9 hw9
    (rename (∃ _, _ ∧ _ ∧ _ ∧ _ ∧ _) => hk9)
    obtain ⟨k0, e1, e2, e3, e4, e5⟩ := hk9
    obtain ⟨k1, t9, ws', j1, rfl, p1, j2, j3⟩ := fit_head hw9 (i := ((k0 - (dn - 4 - past) % 13) / 13).toNat) (by omega) (by rw [decide_eq_true_eq]; omega)
    have p1 := of_decide_eq_true p1
    have hkk : k1 = k0 := by clear hw9; omega
    clear hw9
    k_steps
    rename Fr _ _ _ _ => F8
    (try dsimp only at F8)
    have F8 := fr_fits F8
    refine' k _ _ _ _ _ _ _ ?e1 ?e2 ?e3 ?e4
    case e4 => exact cb_drop (by assumption) (by intro q hq; (repeat (first | exact hq | refine List.Mem.tail _ ?_)))
    case e3 => assumption
    case e1 => assumption
    case e2 => assumption
set_option maxRecDepth 100000 in
set_option maxHeartbeats 1000000 in
theorem seg10 {l D Tn Hn Yn P En Wn Wh : Addr} {vs wn wh : List Value} {c wc wd : Nat} {a9 b9 c9 d9 dn dv past r1 kin r2 uin r3 tun bak kat pl z ni mi : Int} {nm mo : Str} {ta tb tc td tx t1 t2 t3 t4 t5 t6 t7 t8 u1 u2 u3 u4 u5 u6 u7 u8 tp tq : Tok} {x : UInt64} {oN oP : Obj} {ps qs : Array Value}
    (X : (Mine.hd.heap_39 w.params).In base) (T : Top p0 loose0 mean mg mb base) (F : Fr base L s.heap (fun y => if y = "wrong_haab" then some (.ref Wh) else if y = "wrong_names" then some (.ref Wn) else if y = "there" then some (.ref P) else if y = "here" then some (.ref En) else if y = "place" then some (.int pl tq) else if y = "year" then some (.ref Yn) else if y = "katun" then some (.int kat u8) else if y = "baktun" then some (.int bak u7) else if y = "tun" then some (.int tun u6) else if y = "rest" then some (.int r3 u5) else if y = "uinal" then some (.int uin u4) else if y = "rest" then some (.int r2 u3) else if y = "kin" then some (.int kin u2) else if y = "rest" then some (.int r1 u1) else if y = "haab" then some (.ref Hn) else if y = "day" then some (.int dv t3) else if y = "month" then some (.str mo t4) else if y = "d" then some (.int d9 td) else if y = "c" then some (.int c9 tc) else if y = "b" then some (.int b9 tb) else if y = "a" then some (.int a9 ta) else if y = "number" then some (.float x tx) else if y = "numbers" then some (.ref D) else if y = "script" then some (.ref l) else none))
    (N : News base L s.heap ((130, tabObj qs) :: (109, tabObj ps) :: (Tn, tup [.int dn t1, .str nm t2]) :: (Hn, tup [.int dv t3, .str mo t4]) :: (Wh, listOf wh.toArray wd) :: (Wn, listOf wn.toArray wc) :: (En, tup [.int ((past + 3) % 13 + 1) t7, .str (nameAt ((past + 19) % 20)) t8]) :: (P, tup [.int ((348 + past) % 365 % 20) t5, .str (moonAt ((348 + past) % 365 / 20)) t6]) :: (D, listOf vs.toArray c) :: (L + 1 + 1, oN) :: (L + 1, oP) :: []))
    (q1 : @LT.lt Nat _ 130 Tn) (q2 : @LT.lt Nat _ 130 Hn) (q3 : @LT.lt Nat _ 130 Wh) (q4 : @LT.lt Nat _ 130 Wn) (q5 : @LT.lt Nat _ 130 En) (q6 : @LT.lt Nat _ 130 P) (q7 : @LT.lt Nat _ 130 D) (q8 : @LT.lt Nat _ 130 L) (htr : TriplesOk ps.toList) (htr' : TriplesOk qs.toList) (G : AllBare s.gens)
    (hN : oN.data = .cell (some (.ref Tn))) (hP : oP.data = .cell (some (.int past tp))) (hp : 0 ≤ past ∧ past < 10000000) (hx : HV x z) (hz : z = 1168565 + 2 * past) (hm : (0 ≤ ni ∧ ni < 20 ∧ nm = nameAt ni) ∨ (ni = -1 ∧ nm = "Nobody"))
    (hw : Wrong (1 ≤ dn ∧ dn ≤ 13) (0 ≤ ni) wn)
    (k : ∀ h' gs d' tk' ps' tv fv, TriplesOk ps'.toList → AllBare gs → Fr base L h' (fun y => if y = "told" then tv else if y = "fits" then fv else if y = "wrong_haab" then some (.ref Wh) else if y = "wrong_names" then some (.ref Wn) else if y = "there" then some (.ref P) else if y = "here" then some (.ref En) else if y = "place" then some (.int pl tq) else if y = "year" then some (.ref Yn) else if y = "katun" then some (.int kat u8) else if y = "baktun" then some (.int bak u7) else if y = "tun" then some (.int tun u6) else if y = "rest" then some (.int r3 u5) else if y = "uinal" then some (.int uin u4) else if y = "rest" then some (.int r2 u3) else if y = "kin" then some (.int kin u2) else if y = "rest" then some (.int r1 u1) else if y = "haab" then some (.ref Hn) else if y = "day" then some (.int dv t3) else if y = "month" then some (.str mo t4) else if y = "d" then some (.int d9 td) else if y = "c" then some (.int c9 tc) else if y = "b" then some (.int b9 tb) else if y = "a" then some (.int a9 ta) else if y = "number" then some (.float x tx) else if y = "numbers" then some (.ref D) else if y = "script" then some (.ref l) else none) →
      News base L h' ((130, tabObj qs) :: (109, tabObj ps') :: (Tn, tup [.int dn t1, .str nm t2]) :: (Hn, tup [.int dv t3, .str mo t4]) :: (Wh, listOf wh.toArray wd) :: (Wn, listOf wn.toArray wc) :: (En, tup [.int ((past + 3) % 13 + 1) t7, .str (nameAt ((past + 19) % 20)) t8]) :: (P, tup [.int ((348 + past) % 365 % 20) t5, .str (moonAt ((348 + past) % 365 / 20)) t6]) :: (D, listOf vs.toArray c) :: (L + 1 + 1, oN) :: (L + 1, oP) :: []) →
      wpAny (model Challenge.rw_ak5005_01.row.prog w) (callerA.deeper (lawE L a cd)) (execs rest (lawE L a cd)) Q E { s with heap := h', gens := gs, drawn := d', toks := tk' }) :
    wpAny (model Challenge.rw_ak5005_01.row.prog w) (callerA.deeper (lawE L a cd)) (execs ((lawB.drop 25).take 2 ++ rest) (lawE L a cd)) Q E s := by
  obtain ⟨w1, w2, ⟨g1, g2, rfl⟩ | ⟨g1, g2, rfl⟩ | ⟨g1, g2, rfl⟩ | ⟨g1, g2, rfl⟩⟩ := hw
  · exact seg10a (mi := 0) (w1 := w1) (w2 := w2) X T F N q1 q2 q3 q4 q5 q6 q7 q8 htr htr' G hN hP hp hx hz hm g1 g2 k
  · exact seg10b (mi := 0) (w1 := w1) (w2 := w2) X T F N q1 q2 q3 q4 q5 q6 q7 q8 htr htr' G hN hP hp hx hz hm g1 g2 k
  · exact seg10c (mi := 0) (w1 := w1) (w2 := w2) X T F N q1 q2 q3 q4 q5 q6 q7 q8 htr htr' G hN hP hp hx hz hm g1 g2 k
  · exact seg10d (mi := 0) (w1 := w1) (w2 := w2) X T F N q1 q2 q3 q4 q5 q6 q7 q8 htr htr' G hN hP hp hx hz hm g1 g2 k
end
/-! part L10 -/
theorem offL10 : True := by
  w_top off
  trivial
open LCg
section
variable {prog : Program} {w : World} {A : Around} {E : Value → Shared → Prop} {s : Shared} {Q : Value → Shared → Prop} {t u : Tok} {k mi : Int} {h₀ : Heap} {L D : Addr} {m : Str → Option Value} {news : List (Addr × Obj)} {vs : List Value} {c : Nat}
theorem r_ne_moon (hj : 0 ≤ k ∧ k < 19) (hm : 0 ≤ mi ∧ mi < 19) (h : Q (.bool (decide (k ≠ mi))) s) :
    wpAny (model prog w) A (compareOp .NotEq (.str (moonAt k) t) (.str (moonAt mi) u)) Q E s := by
  have e : (moonAt k != moonAt mi) = decide (k ≠ mi) := by
    by_cases q : k = mi
    · subst q; simp
    · rw [decide_eq_true q]; exact bne_iff_ne.mpr fun z => q (moonAt_inj hj hm z)
  exact ne_str (by rw [e]; exact h)
theorem meth_index {pl : Sem Bool} {Q : Value × List Value → Shared → Prop} (N : News h₀ L s.heap news) (hm : (D, listOf vs.toArray c) ∈ news) (h : Q (.builtin "list.index", [.ref D]) s) :
    wpAny (model prog w) A (getMethod (.ref D) "index" pl) Q E s :=
  getMethod_builtin ⟨_, (N _ hm).1, rfl⟩ PySem.F.plainAttrs_list PySem.F.slot_list_index PySem.F.type_list_index (fun a e => by cases e; exact ⟨_, (N _ hm).1, rfl⟩) h
theorem index_moon (N : News h₀ L s.heap news) (hm : (D, listOf vs.toArray c) ∈ news) (hv : StrsAre vs moons) (hk : 0 ≤ k ∧ k < 19) (h : Q (.int k s.toks) { s with toks := s.toks + 1 }) :
    wpAny (model prog w) A (call (.builtin "list.index") [.ref D, .str (moonAt k) t]) Q E s := by
  refine r_index_found (j := k.toNat) (N _ hm).1 hv (by decide) (by show k.toNat < 19; omega) rfl (moons_inj _ (by omega)) ?_
  rw [Int.toNat_of_nonneg hk.1]; exact h
end
local macro_rules | `(tactic| walk_at "compareOp NotEq str str") => `(tactic| (k_here; (with_reducible show wpAny _ _ (compareOp _ (Value.str (moonAt _) _) (Value.str (moonAt _) _)) _ _ _); k_dflt (refine' r_ne_moon ?k1 ?k2 ?_; (case k1 => omega); (case k2 => omega))))
local macro_rules | `(tactic| walk_at "getMethod ref") => `(tactic| (k_here; (with_reducible show wpAny _ _ (getMethod (Value.ref _) ("index" : Str) _) _ _ _); k_dflt (refine' meth_index ?N ?hm ?_; (case N => k_asm); (case hm => k_mem); k_whole)))
local macro_rules | `(tactic| walk_at "call builtin:list.index") => `(tactic| (k_here; (with_reducible show wpAny _ _ (call _ [Value.ref _, Value.str (moonAt _) _]) _ _ _); k_dflt (refine' index_moon ?N ?hm ?hv ?hk ?_; (case N => k_asm); (case hm => k_mem); (case hv => assumption); (case hk => omega))))
section
variable {w : World} {base : Heap} {mg mb : Str → Option Value} {mean : ExcName → Option Value} {L a : Addr} {cd : Value} {s : Shared} {Q : Flow → Shared → Prop} {E : Value → Shared → Prop} {rest : List Stmt}
set_option maxRecDepth 100000 in
set_option maxHeartbeats 1000000 in
theorem seg11 {l D Tn Hn Yn P En Wn Wh : Addr} {vs wn wh : List Value} {c wc wd : Nat} {a9 b9 c9 d9 dn dv past r1 kin r2 uin r3 tun bak kat pl z ni mi : Int} {nm mo : Str} {ta tb tc td tx t1 t2 t3 t4 t5 t6 t7 t8 u1 u2 u3 u4 u5 u6 u7 u8 tp tq : Tok} {x : UInt64} {oN oP : Obj} {ps qs : Array Value} {tv fv : Option Value}
    (X : (Mine.hd.heap_39 w.params).In base) (T : Top p0 loose0 mean mg mb base) (F : Fr base L s.heap (fun y => if y = "told" then tv else if y = "fits" then fv else if y = "wrong_haab" then some (.ref Wh) else if y = "wrong_names" then some (.ref Wn) else if y = "there" then some (.ref P) else if y = "here" then some (.ref En) else if y = "place" then some (.int pl tq) else if y = "year" then some (.ref Yn) else if y = "katun" then some (.int kat u8) else if y = "baktun" then some (.int bak u7) else if y = "tun" then some (.int tun u6) else if y = "rest" then some (.int r3 u5) else if y = "uinal" then some (.int uin u4) else if y = "rest" then some (.int r2 u3) else if y = "kin" then some (.int kin u2) else if y = "rest" then some (.int r1 u1) else if y = "haab" then some (.ref Hn) else if y = "day" then some (.int dv t3) else if y = "month" then some (.str mo t4) else if y = "d" then some (.int d9 td) else if y = "c" then some (.int c9 tc) else if y = "b" then some (.int b9 tb) else if y = "a" then some (.int a9 ta) else if y = "number" then some (.float x tx) else if y = "numbers" then some (.ref D) else if y = "script" then some (.ref l) else none))
    (N : News base L s.heap ((130, tabObj qs) :: (109, tabObj ps) :: (Tn, tup [.int dn t1, .str nm t2]) :: (Hn, tup [.int dv t3, .str mo t4]) :: (Wh, listOf wh.toArray wd) :: (Wn, listOf wn.toArray wc) :: (En, tup [.int ((past + 3) % 13 + 1) t7, .str (nameAt ((past + 19) % 20)) t8]) :: (P, tup [.int ((348 + past) % 365 % 20) t5, .str (moonAt ((348 + past) % 365 / 20)) t6]) :: (D, listOf vs.toArray c) :: (L + 1 + 1, oN) :: (L + 1, oP) :: []))
    (q1 : @LT.lt Nat _ 130 Tn) (q2 : @LT.lt Nat _ 130 Hn) (q3 : @LT.lt Nat _ 130 Wh) (q4 : @LT.lt Nat _ 130 Wn) (q5 : @LT.lt Nat _ 130 En) (q6 : @LT.lt Nat _ 130 P) (q7 : @LT.lt Nat _ 130 D) (q8 : @LT.lt Nat _ 130 L) (hN : oN.data = .cell (some (.ref Tn))) (hp : 0 ≤ past ∧ past < 10000000) (hx : HV x z) (hz : z = 1168565 + 2 * past) (hpl : pl = (348 + past) % 365) (hm' : (0 ≤ mi ∧ mi < 19 ∧ mo = moonAt mi) ∨ (mi = -1 ∧ mo = "Nobody"))
    (k : ∀ h' tk', Fr base L h' (fun y => if y = "told" then tv else if y = "fits" then fv else if y = "wrong_haab" then some (.ref Wh) else if y = "wrong_names" then some (.ref Wn) else if y = "there" then some (.ref P) else if y = "here" then some (.ref En) else if y = "place" then some (.int pl tq) else if y = "year" then some (.ref Yn) else if y = "katun" then some (.int kat u8) else if y = "baktun" then some (.int bak u7) else if y = "tun" then some (.int tun u6) else if y = "rest" then some (.int r3 u5) else if y = "uinal" then some (.int uin u4) else if y = "rest" then some (.int r2 u3) else if y = "kin" then some (.int kin u2) else if y = "rest" then some (.int r1 u1) else if y = "haab" then some (.ref Hn) else if y = "day" then some (.int dv t3) else if y = "month" then some (.str mo t4) else if y = "d" then some (.int d9 td) else if y = "c" then some (.int c9 tc) else if y = "b" then some (.int b9 tb) else if y = "a" then some (.int a9 ta) else if y = "number" then some (.float x tx) else if y = "numbers" then some (.ref D) else if y = "script" then some (.ref l) else none) →
      News base L h' ((130, tabObj qs) :: (109, tabObj ps) :: (Tn, tup [.int dn t1, .str nm t2]) :: (Hn, tup [.int dv t3, .str mo t4]) :: (Wh, listOf wh.toArray wd) :: (Wn, listOf wn.toArray wc) :: (En, tup [.int ((past + 3) % 13 + 1) t7, .str (nameAt ((past + 19) % 20)) t8]) :: (P, tup [.int ((348 + past) % 365 % 20) t5, .str (moonAt ((348 + past) % 365 / 20)) t6]) :: (D, listOf vs.toArray c) :: (L + 1 + 1, oN) :: (L + 1, oP) :: []) →
      wpAny (model Challenge.rw_ak5005_01.row.prog w) (callerA.deeper (lawE L a cd)) (execs rest (lawE L a cd)) Q E { s with heap := h', toks := tk' }) :
    wpAny (model Challenge.rw_ak5005_01.row.prog w) (callerA.deeper (lawE L a cd)) (execs ((lawB.drop 27).take 1 ++ rest) (lawE L a cd)) Q E s := by
  have hm9 := hm'
  rcases hm' with ⟨hm0, hm1, rfl⟩ | ⟨rfl, rfl⟩
  · (have B : Below callerA base [] base := below_caller _; revert X; k_fill; intro X; have e : lawB = (match Challenge.rw_ak5005_01.prog.main.body.getLast? with | some (.FunctionDef _ _ b _ _ _ _ _ _ _) => b | _ => []) := rfl; dsimp only [Challenge.rw_ak5005_01, Challenge.pw_ak5005_01, List.getLast?, List.getLast] at e; rw [e]; clear e; dsimp only [List.drop, List.take, List.cons_append, List.nil_append]); k_steps
    all_goals first
      | (refine' k _ _ ?e3 ?e4; (case e4 => exact cb_drop (by assumption) (by intro q hq; (repeat (first | exact hq | refine List.Mem.tail _ ?_)))); (case e3 => assumption))
      | (exfalso; omega)
  · (have B : Below callerA base [] base := below_caller _; revert X; k_fill; intro X; have e : lawB = (match Challenge.rw_ak5005_01.prog.main.body.getLast? with | some (.FunctionDef _ _ b _ _ _ _ _ _ _) => b | _ => []) := rfl; dsimp only [Challenge.rw_ak5005_01, Challenge.pw_ak5005_01, List.getLast?, List.getLast] at e; rw [e]; clear e; dsimp only [List.drop, List.take, List.cons_append, List.nil_append]); k_steps
    all_goals first
      | (refine' k _ _ ?e3 ?e4; (case e4 => exact cb_drop (by assumption) (by intro q hq; (repeat (first | exact hq | refine List.Mem.tail _ ?_)))); (case e3 => assumption))
      | (exfalso; omega)
end
/-! part L11 -/
theorem offL11 : True := by
  w_top off
  trivial
open LCg
section
variable {w : World} {base : Heap} {mg mb : Str → Option Value} {mean : ExcName → Option Value} {L a : Addr} {cd : Value} {s : Shared} {Q : Flow → Shared → Prop} {E : Value → Shared → Prop} {rest : List Stmt}
set_option maxRecDepth 100000 in
set_option maxHeartbeats 4000000 in
theorem seg12b {l D Tn Hn Yn P En Wn Wh : Addr} {vs wn wh : List Value} {c wc wd : Nat} {a9 b9 c9 d9 dn dv past r1 kin r2 uin r3 tun bak kat pl z ni mi : Int} {nm mo : Str} {ta tb tc td tx t1 t2 t3 t4 t5 t6 t7 t8 u1 u2 u3 u4 u5 u6 u7 u8 tp tq : Tok} {x : UInt64} {oN oP : Obj} {ps qs : Array Value} {tv fv : Option Value}
    (X : (Mine.hd.heap_39 w.params).In base) (T : Top p0 loose0 mean mg mb base) (F : Fr base L s.heap (fun y => if y = "told" then tv else if y = "fits" then fv else if y = "wrong_haab" then some (.ref Wh) else if y = "wrong_names" then some (.ref Wn) else if y = "there" then some (.ref P) else if y = "here" then some (.ref En) else if y = "place" then some (.int pl tq) else if y = "year" then some (.ref Yn) else if y = "katun" then some (.int kat u8) else if y = "baktun" then some (.int bak u7) else if y = "tun" then some (.int tun u6) else if y = "rest" then some (.int r3 u5) else if y = "uinal" then some (.int uin u4) else if y = "rest" then some (.int r2 u3) else if y = "kin" then some (.int kin u2) else if y = "rest" then some (.int r1 u1) else if y = "haab" then some (.ref Hn) else if y = "day" then some (.int dv t3) else if y = "month" then some (.str mo t4) else if y = "d" then some (.int d9 td) else if y = "c" then some (.int c9 tc) else if y = "b" then some (.int b9 tb) else if y = "a" then some (.int a9 ta) else if y = "number" then some (.float x tx) else if y = "numbers" then some (.ref D) else if y = "script" then some (.ref l) else none))
    (N : News base L s.heap ((130, tabObj qs) :: (109, tabObj ps) :: (Tn, tup [.int dn t1, .str nm t2]) :: (Hn, tup [.int dv t3, .str mo t4]) :: (Wh, listOf wh.toArray wd) :: (Wn, listOf wn.toArray wc) :: (En, tup [.int ((past + 3) % 13 + 1) t7, .str (nameAt ((past + 19) % 20)) t8]) :: (P, tup [.int ((348 + past) % 365 % 20) t5, .str (moonAt ((348 + past) % 365 / 20)) t6]) :: (D, listOf vs.toArray c) :: (L + 1 + 1, oN) :: (L + 1, oP) :: []))
    (q1 : @LT.lt Nat _ 130 Tn) (q2 : @LT.lt Nat _ 130 Hn) (q3 : @LT.lt Nat _ 130 Wh) (q4 : @LT.lt Nat _ 130 Wn) (q5 : @LT.lt Nat _ 130 En) (q6 : @LT.lt Nat _ 130 P) (q7 : @LT.lt Nat _ 130 D) (q8 : @LT.lt Nat _ 130 L) (htr : TriplesOk ps.toList) (htr' : TriplesOk qs.toList) (G : AllBare s.gens)
    (hN : oN.data = .cell (some (.ref Tn))) (hP : oP.data = .cell (some (.int past tp))) (hp : 0 ≤ past ∧ past < 10000000) (hx : HV x z) (hz : z = 1168565 + 2 * past) (hpl : pl = (348 + past) % 365) (hm : (0 ≤ ni ∧ ni < 20 ∧ nm = nameAt ni) ∨ (ni = -1 ∧ nm = "Nobody")) (hm' : (0 ≤ mi ∧ mi < 19 ∧ mo = moonAt mi) ∨ (mi = -1 ∧ mo = "Nobody"))
    (g1 : ¬ (1 ≤ dn ∧ dn ≤ 13)) (g2 : 0 ≤ ni) {w1 w2 : Tok} (e9 : wn = [Value.str "IndexError" w1]) (hv : Wrong (0 ≤ dv ∧ dv ≤ 19) (0 ≤ mi) wh)
    (k : ∀ h' gs d' tk' ps' qs' tv fv, TriplesOk ps'.toList → TriplesOk qs'.toList → AllBare gs → Fr base L h' (fun y => if y = "told" then tv else if y = "fits" then fv else if y = "wrong_haab" then some (.ref Wh) else if y = "wrong_names" then some (.ref Wn) else if y = "there" then some (.ref P) else if y = "here" then some (.ref En) else if y = "place" then some (.int pl tq) else if y = "year" then some (.ref Yn) else if y = "katun" then some (.int kat u8) else if y = "baktun" then some (.int bak u7) else if y = "tun" then some (.int tun u6) else if y = "rest" then some (.int r3 u5) else if y = "uinal" then some (.int uin u4) else if y = "rest" then some (.int r2 u3) else if y = "kin" then some (.int kin u2) else if y = "rest" then some (.int r1 u1) else if y = "haab" then some (.ref Hn) else if y = "day" then some (.int dv t3) else if y = "month" then some (.str mo t4) else if y = "d" then some (.int d9 td) else if y = "c" then some (.int c9 tc) else if y = "b" then some (.int b9 tb) else if y = "a" then some (.int a9 ta) else if y = "number" then some (.float x tx) else if y = "numbers" then some (.ref D) else if y = "script" then some (.ref l) else none) →
      News base L h' ((130, tabObj qs') :: (109, tabObj ps') :: (Tn, tup [.int dn t1, .str nm t2]) :: (Hn, tup [.int dv t3, .str mo t4]) :: (Wh, listOf wh.toArray wd) :: (Wn, listOf wn.toArray wc) :: (En, tup [.int ((past + 3) % 13 + 1) t7, .str (nameAt ((past + 19) % 20)) t8]) :: (P, tup [.int ((348 + past) % 365 % 20) t5, .str (moonAt ((348 + past) % 365 / 20)) t6]) :: (D, listOf vs.toArray c) :: (L + 1 + 1, oN) :: (L + 1, oP) :: []) →
      wpAny (model Challenge.rw_ak5005_01.row.prog w) (callerA.deeper (lawE L a cd)) (execs rest (lawE L a cd)) Q E { s with heap := h', gens := gs, drawn := d', toks := tk' }) :
    wpAny (model Challenge.rw_ak5005_01.row.prog w) (callerA.deeper (lawE L a cd)) (execs ((lawB.drop 28).take 2 ++ rest) (lawE L a cd)) Q E s := by
  subst e9
  obtain ⟨w3, w4, ⟨g3, g4, rfl⟩ | ⟨g3, g4, rfl⟩ | ⟨g3, g4, rfl⟩ | ⟨g3, g4, rfl⟩⟩ := hv
  all_goals (
    (have B : Below callerA base [] base := below_caller _; revert X; k_fill; intro X; have e : lawB = (match Challenge.rw_ak5005_01.prog.main.body.getLast? with | some (.FunctionDef _ _ b _ _ _ _ _ _ _) => b | _ => []) := rfl; dsimp only [Challenge.rw_ak5005_01, Challenge.pw_ak5005_01, List.getLast?, List.getLast] at e; rw [e]; clear e; dsimp only [List.drop, List.take, List.cons_append, List.nil_append]); k_steps
    all_goals (
      rename Fr _ _ _ _ => F9
      (try dsimp only at F9)
      have F9 := fr_told' F9
      refine' k _ _ _ _ _ _ _ _ ?e1 ?e1' ?e2 ?e3 ?e4
      case e4 => exact cb_drop (by assumption) (by intro q hq; (repeat (first | exact hq | refine List.Mem.tail _ ?_)))
      case e3 => assumption
      case e1 => assumption
      case e1' => assumption
      case e2 => assumption))
set_option maxRecDepth 100000 in
set_option maxHeartbeats 4000000 in
theorem seg12c {l D Tn Hn Yn P En Wn Wh : Addr} {vs wn wh : List Value} {c wc wd : Nat} {a9 b9 c9 d9 dn dv past r1 kin r2 uin r3 tun bak kat pl z ni mi : Int} {nm mo : Str} {ta tb tc td tx t1 t2 t3 t4 t5 t6 t7 t8 u1 u2 u3 u4 u5 u6 u7 u8 tp tq : Tok} {x : UInt64} {oN oP : Obj} {ps qs : Array Value} {tv fv : Option Value}
    (X : (Mine.hd.heap_39 w.params).In base) (T : Top p0 loose0 mean mg mb base) (F : Fr base L s.heap (fun y => if y = "told" then tv else if y = "fits" then fv else if y = "wrong_haab" then some (.ref Wh) else if y = "wrong_names" then some (.ref Wn) else if y = "there" then some (.ref P) else if y = "here" then some (.ref En) else if y = "place" then some (.int pl tq) else if y = "year" then some (.ref Yn) else if y = "katun" then some (.int kat u8) else if y = "baktun" then some (.int bak u7) else if y = "tun" then some (.int tun u6) else if y = "rest" then some (.int r3 u5) else if y = "uinal" then some (.int uin u4) else if y = "rest" then some (.int r2 u3) else if y = "kin" then some (.int kin u2) else if y = "rest" then some (.int r1 u1) else if y = "haab" then some (.ref Hn) else if y = "day" then some (.int dv t3) else if y = "month" then some (.str mo t4) else if y = "d" then some (.int d9 td) else if y = "c" then some (.int c9 tc) else if y = "b" then some (.int b9 tb) else if y = "a" then some (.int a9 ta) else if y = "number" then some (.float x tx) else if y = "numbers" then some (.ref D) else if y = "script" then some (.ref l) else none))
    (N : News base L s.heap ((130, tabObj qs) :: (109, tabObj ps) :: (Tn, tup [.int dn t1, .str nm t2]) :: (Hn, tup [.int dv t3, .str mo t4]) :: (Wh, listOf wh.toArray wd) :: (Wn, listOf wn.toArray wc) :: (En, tup [.int ((past + 3) % 13 + 1) t7, .str (nameAt ((past + 19) % 20)) t8]) :: (P, tup [.int ((348 + past) % 365 % 20) t5, .str (moonAt ((348 + past) % 365 / 20)) t6]) :: (D, listOf vs.toArray c) :: (L + 1 + 1, oN) :: (L + 1, oP) :: []))
    (q1 : @LT.lt Nat _ 130 Tn) (q2 : @LT.lt Nat _ 130 Hn) (q3 : @LT.lt Nat _ 130 Wh) (q4 : @LT.lt Nat _ 130 Wn) (q5 : @LT.lt Nat _ 130 En) (q6 : @LT.lt Nat _ 130 P) (q7 : @LT.lt Nat _ 130 D) (q8 : @LT.lt Nat _ 130 L) (htr : TriplesOk ps.toList) (htr' : TriplesOk qs.toList) (G : AllBare s.gens)
    (hN : oN.data = .cell (some (.ref Tn))) (hP : oP.data = .cell (some (.int past tp))) (hp : 0 ≤ past ∧ past < 10000000) (hx : HV x z) (hz : z = 1168565 + 2 * past) (hpl : pl = (348 + past) % 365) (hm : (0 ≤ ni ∧ ni < 20 ∧ nm = nameAt ni) ∨ (ni = -1 ∧ nm = "Nobody")) (hm' : (0 ≤ mi ∧ mi < 19 ∧ mo = moonAt mi) ∨ (mi = -1 ∧ mo = "Nobody"))
    (g1 : 1 ≤ dn ∧ dn ≤ 13) (g2 : ¬ 0 ≤ ni) {w1 w2 : Tok} (e9 : wn = [Value.str "ValueError" w2]) (hv : Wrong (0 ≤ dv ∧ dv ≤ 19) (0 ≤ mi) wh)
    (k : ∀ h' gs d' tk' ps' qs' tv fv, TriplesOk ps'.toList → TriplesOk qs'.toList → AllBare gs → Fr base L h' (fun y => if y = "told" then tv else if y = "fits" then fv else if y = "wrong_haab" then some (.ref Wh) else if y = "wrong_names" then some (.ref Wn) else if y = "there" then some (.ref P) else if y = "here" then some (.ref En) else if y = "place" then some (.int pl tq) else if y = "year" then some (.ref Yn) else if y = "katun" then some (.int kat u8) else if y = "baktun" then some (.int bak u7) else if y = "tun" then some (.int tun u6) else if y = "rest" then some (.int r3 u5) else if y = "uinal" then some (.int uin u4) else if y = "rest" then some (.int r2 u3) else if y = "kin" then some (.int kin u2) else if y = "rest" then some (.int r1 u1) else if y = "haab" then some (.ref Hn) else if y = "day" then some (.int dv t3) else if y = "month" then some (.str mo t4) else if y = "d" then some (.int d9 td) else if y = "c" then some (.int c9 tc) else if y = "b" then some (.int b9 tb) else if y = "a" then some (.int a9 ta) else if y = "number" then some (.float x tx) else if y = "numbers" then some (.ref D) else if y = "script" then some (.ref l) else none) →
      News base L h' ((130, tabObj qs') :: (109, tabObj ps') :: (Tn, tup [.int dn t1, .str nm t2]) :: (Hn, tup [.int dv t3, .str mo t4]) :: (Wh, listOf wh.toArray wd) :: (Wn, listOf wn.toArray wc) :: (En, tup [.int ((past + 3) % 13 + 1) t7, .str (nameAt ((past + 19) % 20)) t8]) :: (P, tup [.int ((348 + past) % 365 % 20) t5, .str (moonAt ((348 + past) % 365 / 20)) t6]) :: (D, listOf vs.toArray c) :: (L + 1 + 1, oN) :: (L + 1, oP) :: []) →
      wpAny (model Challenge.rw_ak5005_01.row.prog w) (callerA.deeper (lawE L a cd)) (execs rest (lawE L a cd)) Q E { s with heap := h', gens := gs, drawn := d', toks := tk' }) :
    wpAny (model Challenge.rw_ak5005_01.row.prog w) (callerA.deeper (lawE L a cd)) (execs ((lawB.drop 28).take 2 ++ rest) (lawE L a cd)) Q E s := by
  subst e9
  obtain ⟨w3, w4, ⟨g3, g4, rfl⟩ | ⟨g3, g4, rfl⟩ | ⟨g3, g4, rfl⟩ | ⟨g3, g4, rfl⟩⟩ := hv
  all_goals (
    (have B : Below callerA base [] base := below_caller _; revert X; k_fill; intro X; have e : lawB = (match Challenge.rw_ak5005_01.prog.main.body.getLast? with | some (.FunctionDef _ _ b _ _ _ _ _ _ _) => b | _ => []) := rfl; dsimp only [Challenge.rw_ak5005_01, Challenge.pw_ak5005_01, List.getLast?, List.getLast] at e; rw [e]; clear e; dsimp only [List.drop, List.take, List.cons_append, List.nil_append]); k_steps
    all_goals (
      rename Fr _ _ _ _ => F9
      (try dsimp only at F9)
      have F9 := fr_told' F9
      refine' k _ _ _ _ _ _ _ _ ?e1 ?e1' ?e2 ?e3 ?e4
      case e4 => exact cb_drop (by assumption) (by intro q hq; (repeat (first | exact hq | refine List.Mem.tail _ ?_)))
      case e3 => assumption
      case e1 => assumption
      case e1' => assumption
      case e2 => assumption))
set_option maxRecDepth 100000 in
set_option maxHeartbeats 4000000 in
theorem seg12d {l D Tn Hn Yn P En Wn Wh : Addr} {vs wn wh : List Value} {c wc wd : Nat} {a9 b9 c9 d9 dn dv past r1 kin r2 uin r3 tun bak kat pl z ni mi : Int} {nm mo : Str} {ta tb tc td tx t1 t2 t3 t4 t5 t6 t7 t8 u1 u2 u3 u4 u5 u6 u7 u8 tp tq : Tok} {x : UInt64} {oN oP : Obj} {ps qs : Array Value} {tv fv : Option Value}
    (X : (Mine.hd.heap_39 w.params).In base) (T : Top p0 loose0 mean mg mb base) (F : Fr base L s.heap (fun y => if y = "told" then tv else if y = "fits" then fv else if y = "wrong_haab" then some (.ref Wh) else if y = "wrong_names" then some (.ref Wn) else if y = "there" then some (.ref P) else if y = "here" then some (.ref En) else if y = "place" then some (.int pl tq) else if y = "year" then some (.ref Yn) else if y = "katun" then some (.int kat u8) else if y = "baktun" then some (.int bak u7) else if y = "tun" then some (.int tun u6) else if y = "rest" then some (.int r3 u5) else if y = "uinal" then some (.int uin u4) else if y = "rest" then some (.int r2 u3) else if y = "kin" then some (.int kin u2) else if y = "rest" then some (.int r1 u1) else if y = "haab" then some (.ref Hn) else if y = "day" then some (.int dv t3) else if y = "month" then some (.str mo t4) else if y = "d" then some (.int d9 td) else if y = "c" then some (.int c9 tc) else if y = "b" then some (.int b9 tb) else if y = "a" then some (.int a9 ta) else if y = "number" then some (.float x tx) else if y = "numbers" then some (.ref D) else if y = "script" then some (.ref l) else none))
    (N : News base L s.heap ((130, tabObj qs) :: (109, tabObj ps) :: (Tn, tup [.int dn t1, .str nm t2]) :: (Hn, tup [.int dv t3, .str mo t4]) :: (Wh, listOf wh.toArray wd) :: (Wn, listOf wn.toArray wc) :: (En, tup [.int ((past + 3) % 13 + 1) t7, .str (nameAt ((past + 19) % 20)) t8]) :: (P, tup [.int ((348 + past) % 365 % 20) t5, .str (moonAt ((348 + past) % 365 / 20)) t6]) :: (D, listOf vs.toArray c) :: (L + 1 + 1, oN) :: (L + 1, oP) :: []))
    (q1 : @LT.lt Nat _ 130 Tn) (q2 : @LT.lt Nat _ 130 Hn) (q3 : @LT.lt Nat _ 130 Wh) (q4 : @LT.lt Nat _ 130 Wn) (q5 : @LT.lt Nat _ 130 En) (q6 : @LT.lt Nat _ 130 P) (q7 : @LT.lt Nat _ 130 D) (q8 : @LT.lt Nat _ 130 L) (htr : TriplesOk ps.toList) (htr' : TriplesOk qs.toList) (G : AllBare s.gens)
    (hN : oN.data = .cell (some (.ref Tn))) (hP : oP.data = .cell (some (.int past tp))) (hp : 0 ≤ past ∧ past < 10000000) (hx : HV x z) (hz : z = 1168565 + 2 * past) (hpl : pl = (348 + past) % 365) (hm : (0 ≤ ni ∧ ni < 20 ∧ nm = nameAt ni) ∨ (ni = -1 ∧ nm = "Nobody")) (hm' : (0 ≤ mi ∧ mi < 19 ∧ mo = moonAt mi) ∨ (mi = -1 ∧ mo = "Nobody"))
    (g1 : ¬ (1 ≤ dn ∧ dn ≤ 13)) (g2 : ¬ 0 ≤ ni) {w1 w2 : Tok} (e9 : wn = [Value.str "IndexError" w1, Value.str "ValueError" w2]) (hv : Wrong (0 ≤ dv ∧ dv ≤ 19) (0 ≤ mi) wh)
    (k : ∀ h' gs d' tk' ps' qs' tv fv, TriplesOk ps'.toList → TriplesOk qs'.toList → AllBare gs → Fr base L h' (fun y => if y = "told" then tv else if y = "fits" then fv else if y = "wrong_haab" then some (.ref Wh) else if y = "wrong_names" then some (.ref Wn) else if y = "there" then some (.ref P) else if y = "here" then some (.ref En) else if y = "place" then some (.int pl tq) else if y = "year" then some (.ref Yn) else if y = "katun" then some (.int kat u8) else if y = "baktun" then some (.int bak u7) else if y = "tun" then some (.int tun u6) else if y = "rest" then some (.int r3 u5) else if y = "uinal" then some (.int uin u4) else if y = "rest" then some (.int r2 u3) else if y = "kin" then some (.int kin u2) else if y = "rest" then some (.int r1 u1) else if y = "haab" then some (.ref Hn) else if y = "day" then some (.int dv t3) else if y = "month" then some (.str mo t4) else if y = "d" then some (.int d9 td) else if y = "c" then some (.int c9 tc) else if y = "b" then some (.int b9 tb) else if y = "a" then some (.int a9 ta) else if y = "number" then some (.float x tx) else if y = "numbers" then some (.ref D) else if y = "script" then some (.ref l) else none) →
      News base L h' ((130, tabObj qs') :: (109, tabObj ps') :: (Tn, tup [.int dn t1, .str nm t2]) :: (Hn, tup [.int dv t3, .str mo t4]) :: (Wh, listOf wh.toArray wd) :: (Wn, listOf wn.toArray wc) :: (En, tup [.int ((past + 3) % 13 + 1) t7, .str (nameAt ((past + 19) % 20)) t8]) :: (P, tup [.int ((348 + past) % 365 % 20) t5, .str (moonAt ((348 + past) % 365 / 20)) t6]) :: (D, listOf vs.toArray c) :: (L + 1 + 1, oN) :: (L + 1, oP) :: []) →
      wpAny (model Challenge.rw_ak5005_01.row.prog w) (callerA.deeper (lawE L a cd)) (execs rest (lawE L a cd)) Q E { s with heap := h', gens := gs, drawn := d', toks := tk' }) :
    wpAny (model Challenge.rw_ak5005_01.row.prog w) (callerA.deeper (lawE L a cd)) (execs ((lawB.drop 28).take 2 ++ rest) (lawE L a cd)) Q E s := by
  subst e9
  obtain ⟨w3, w4, ⟨g3, g4, rfl⟩ | ⟨g3, g4, rfl⟩ | ⟨g3, g4, rfl⟩ | ⟨g3, g4, rfl⟩⟩ := hv
  all_goals (
    (have B : Below callerA base [] base := below_caller _; revert X; k_fill; intro X; have e : lawB = (match Challenge.rw_ak5005_01.prog.main.body.getLast? with | some (.FunctionDef _ _ b _ _ _ _ _ _ _) => b | _ => []) := rfl; dsimp only [Challenge.rw_ak5005_01, Challenge.pw_ak5005_01, List.getLast?, List.getLast] at e; rw [e]; clear e; dsimp only [List.drop, List.take, List.cons_append, List.nil_append]); k_steps
    all_goals (
      rename Fr _ _ _ _ => F9
      (try dsimp only at F9)
      have F9 := fr_told' F9
      refine' k _ _ _ _ _ _ _ _ ?e1 ?e1' ?e2 ?e3 ?e4
      case e4 => exact cb_drop (by assumption) (by intro q hq; (repeat (first | exact hq | refine List.Mem.tail _ ?_)))
      case e3 => assumption
      case e1 => assumption
      case e1' => assumption
      case e2 => assumption))
set_option maxRecDepth 100000 in
set_option maxHeartbeats 4000000 in
theorem seg12a {l D Tn Hn Yn P En Wn Wh : Addr} {vs wn wh : List Value} {c wc wd : Nat} {a9 b9 c9 d9 dn dv past r1 kin r2 uin r3 tun bak kat pl z ni mi : Int} {nm mo : Str} {ta tb tc td tx t1 t2 t3 t4 t5 t6 t7 t8 u1 u2 u3 u4 u5 u6 u7 u8 tp tq : Tok} {x : UInt64} {oN oP : Obj} {ps qs : Array Value} {tv fv : Option Value}
    (X : (Mine.hd.heap_39 w.params).In base) (T : Top p0 loose0 mean mg mb base) (F : Fr base L s.heap (fun y => if y = "told" then tv else if y = "fits" then fv else if y = "wrong_haab" then some (.ref Wh) else if y = "wrong_names" then some (.ref Wn) else if y = "there" then some (.ref P) else if y = "here" then some (.ref En) else if y = "place" then some (.int pl tq) else if y = "year" then some (.ref Yn) else if y = "katun" then some (.int kat u8) else if y = "baktun" then some (.int bak u7) else if y = "tun" then some (.int tun u6) else if y = "rest" then some (.int r3 u5) else if y = "uinal" then some (.int uin u4) else if y = "rest" then some (.int r2 u3) else if y = "kin" then some (.int kin u2) else if y = "rest" then some (.int r1 u1) else if y = "haab" then some (.ref Hn) else if y = "day" then some (.int dv t3) else if y = "month" then some (.str mo t4) else if y = "d" then some (.int d9 td) else if y = "c" then some (.int c9 tc) else if y = "b" then some (.int b9 tb) else if y = "a" then some (.int a9 ta) else if y = "number" then some (.float x tx) else if y = "numbers" then some (.ref D) else if y = "script" then some (.ref l) else none))
    (N : News base L s.heap ((130, tabObj qs) :: (109, tabObj ps) :: (Tn, tup [.int dn t1, .str nm t2]) :: (Hn, tup [.int dv t3, .str mo t4]) :: (Wh, listOf wh.toArray wd) :: (Wn, listOf wn.toArray wc) :: (En, tup [.int ((past + 3) % 13 + 1) t7, .str (nameAt ((past + 19) % 20)) t8]) :: (P, tup [.int ((348 + past) % 365 % 20) t5, .str (moonAt ((348 + past) % 365 / 20)) t6]) :: (D, listOf vs.toArray c) :: (L + 1 + 1, oN) :: (L + 1, oP) :: []))
    (q1 : @LT.lt Nat _ 130 Tn) (q2 : @LT.lt Nat _ 130 Hn) (q3 : @LT.lt Nat _ 130 Wh) (q4 : @LT.lt Nat _ 130 Wn) (q5 : @LT.lt Nat _ 130 En) (q6 : @LT.lt Nat _ 130 P) (q7 : @LT.lt Nat _ 130 D) (q8 : @LT.lt Nat _ 130 L) (htr : TriplesOk ps.toList) (htr' : TriplesOk qs.toList) (G : AllBare s.gens)
    (hN : oN.data = .cell (some (.ref Tn))) (hP : oP.data = .cell (some (.int past tp))) (hp : 0 ≤ past ∧ past < 10000000) (hx : HV x z) (hz : z = 1168565 + 2 * past) (hpl : pl = (348 + past) % 365) (hm : (0 ≤ ni ∧ ni < 20 ∧ nm = nameAt ni) ∨ (ni = -1 ∧ nm = "Nobody")) (hm' : (0 ≤ mi ∧ mi < 19 ∧ mo = moonAt mi) ∨ (mi = -1 ∧ mo = "Nobody"))
    (g1 : 1 ≤ dn ∧ dn ≤ 13) (g2 : 0 ≤ ni) {w1 w2 : Tok} (e9 : wn = []) (hv : Wrong (0 ≤ dv ∧ dv ≤ 19) (0 ≤ mi) wh) (hbad : ¬ (0 ≤ dv ∧ dv ≤ 19 ∧ 0 ≤ mi))
    (k : ∀ h' gs d' tk' ps' qs' tv fv, TriplesOk ps'.toList → TriplesOk qs'.toList → AllBare gs → Fr base L h' (fun y => if y = "told" then tv else if y = "fits" then fv else if y = "wrong_haab" then some (.ref Wh) else if y = "wrong_names" then some (.ref Wn) else if y = "there" then some (.ref P) else if y = "here" then some (.ref En) else if y = "place" then some (.int pl tq) else if y = "year" then some (.ref Yn) else if y = "katun" then some (.int kat u8) else if y = "baktun" then some (.int bak u7) else if y = "tun" then some (.int tun u6) else if y = "rest" then some (.int r3 u5) else if y = "uinal" then some (.int uin u4) else if y = "rest" then some (.int r2 u3) else if y = "kin" then some (.int kin u2) else if y = "rest" then some (.int r1 u1) else if y = "haab" then some (.ref Hn) else if y = "day" then some (.int dv t3) else if y = "month" then some (.str mo t4) else if y = "d" then some (.int d9 td) else if y = "c" then some (.int c9 tc) else if y = "b" then some (.int b9 tb) else if y = "a" then some (.int a9 ta) else if y = "number" then some (.float x tx) else if y = "numbers" then some (.ref D) else if y = "script" then some (.ref l) else none) →
      News base L h' ((130, tabObj qs') :: (109, tabObj ps') :: (Tn, tup [.int dn t1, .str nm t2]) :: (Hn, tup [.int dv t3, .str mo t4]) :: (Wh, listOf wh.toArray wd) :: (Wn, listOf wn.toArray wc) :: (En, tup [.int ((past + 3) % 13 + 1) t7, .str (nameAt ((past + 19) % 20)) t8]) :: (P, tup [.int ((348 + past) % 365 % 20) t5, .str (moonAt ((348 + past) % 365 / 20)) t6]) :: (D, listOf vs.toArray c) :: (L + 1 + 1, oN) :: (L + 1, oP) :: []) →
      wpAny (model Challenge.rw_ak5005_01.row.prog w) (callerA.deeper (lawE L a cd)) (execs rest (lawE L a cd)) Q E { s with heap := h', gens := gs, drawn := d', toks := tk' }) :
    wpAny (model Challenge.rw_ak5005_01.row.prog w) (callerA.deeper (lawE L a cd)) (execs ((lawB.drop 28).take 2 ++ rest) (lawE L a cd)) Q E s := by
  subst e9
  obtain ⟨w3, w4, ⟨g3, g4, rfl⟩ | ⟨g3, g4, rfl⟩ | ⟨g3, g4, rfl⟩ | ⟨g3, g4, rfl⟩⟩ := hv
  exact absurd ⟨g3.1, g3.2, g4⟩ hbad
  all_goals (
    (have B : Below callerA base [] base := below_caller _; revert X; k_fill; intro X; have e : lawB = (match Challenge.rw_ak5005_01.prog.main.body.getLast? with | some (.FunctionDef _ _ b _ _ _ _ _ _ _) => b | _ => []) := rfl; dsimp only [Challenge.rw_ak5005_01, Challenge.pw_ak5005_01, List.getLast?, List.getLast] at e; rw [e]; clear e; dsimp only [List.drop, List.take, List.cons_append, List.nil_append]); k_steps
    all_goals (
      rename Fr _ _ _ _ => F9
      (try dsimp only at F9)
      have F9 := fr_told' F9
      refine' k _ _ _ _ _ _ _ _ ?e1 ?e1' ?e2 ?e3 ?e4
      case e4 => exact cb_drop (by assumption) (by intro q hq; (repeat (first | exact hq | refine List.Mem.tail _ ?_)))
      case e3 => assumption
      case e1 => assumption
      case e1' => assumption
      case e2 => assumption))
end
/-! part L12 -/
theorem offL12 : True := by
  w_top off
  trivial
open LCg PyProof.Rows
section
variable {prog : Program} {w : World} {A : Around} {E : Value → Shared → Prop} {s : Shared} {Q : Value → Shared → Prop} {h₀ : Heap} {L D1 D2 : Addr} {m : Str → Option Value} {news : List (Addr × Obj)} {t1 t2 u1 u2 : Tok} {a b k mi : Int} {y : Str} {vs : List Value} {ns : List Int} {v : Value} {c c2 : Nat}
theorem eq_tup (N : News h₀ L s.heap news) (h1 : (D1, tup [.int a t1, .str (nameAt k) t2]) ∈ news) (h2 : (D2, tup [.int b u1, .str y u2]) ∈ news) (hk : 0 ≤ k ∧ k < 20) (hm : (0 ≤ mi ∧ mi < 20 ∧ y = nameAt mi) ∨ (mi = -1 ∧ y = "Nobody")) (hu : A.units + 64 < cLine)
    (h : Q (.bool (decide (a = b ∧ k = mi))) s) : wpAny (model prog w) A (compareOp .Eq (.ref D1) (.ref D2)) Q E s := by
  refine PyProof.Rows.eq_dataH (reads_tuple_at (N _ h1).1 rfl rfl (.cons (.int _ _) (.cons (.str _ _) .nil))) (reads_tuple_at (N _ h2).1 rfl rfl (.cons (.int _ _) (.cons (.str _ _) .nil))) (tup_shaped (ok_name hk)) (tup_shaped (ok_nm hm)) hu ?_
  have e0 : (nameAt k == y) = decide (k = mi) := by
    rcases hm with ⟨h0, h1, rfl⟩ | ⟨rfl, rfl⟩
    · by_cases q : k = mi
      · subst q; simp
      · rw [decide_eq_false q]; exact beq_false_of_ne fun z => q (nameAt_inj hk ⟨h0, h1⟩ z)
    · rw [decide_eq_false (by omega)]; exact beq_false_of_ne (name_ne_nobody hk)
  have e : PyData.eqv (.tuple [.int a, .str (nameAt k)]) (.tuple [.int b, .str y]) = decide (a = b ∧ k = mi) := by
    simp only [PyData.eqv, PyData.eqvAll, e0, Bool.and_true]
    by_cases q1 : a = b <;> by_cases q2 : k = mi <;> simp [q1, q2]
  rw [e]; exact h
theorem ne_nil_cons (N : News h₀ L s.heap news) (h1 : (D1, listOf (v :: vs).toArray c) ∈ news) (h2 : (D2, listOf #[] c2) ∈ news) (hi : IntsAre (v :: vs) ns) (hu : A.units + 64 < cLine) (h : Q (.bool true) s) :
    wpAny (model prog w) A (compareOp .NotEq (.ref D1) (.ref D2)) Q E s := by
  refine ke_ne_ints (xs := v :: vs) (ys := []) (ns := ns) (ms := []) ⟨_, (N _ h1).1, rfl, _, rfl⟩ ⟨_, (N _ h2).1, rfl, _, rfl⟩ hi .nil hu ?_
  cases hi with | cons _ _ _ => simpa using h
theorem ne_nil_nil (N : News h₀ L s.heap news) (h1 : (D1, listOf ([] : List Value).toArray c) ∈ news) (h2 : (D2, listOf #[] c2) ∈ news) (hu : A.units + 64 < cLine) (h : Q (.bool false) s) :
    wpAny (model prog w) A (compareOp .NotEq (.ref D1) (.ref D2)) Q E s := by
  refine ke_ne_ints (xs := []) (ys := []) (ns := []) (ms := []) ⟨_, (N _ h1).1, rfl, _, rfl⟩ ⟨_, (N _ h2).1, rfl, _, rfl⟩ .nil .nil hu ?_
  simpa using h
end
local macro_rules | `(tactic| walk_at "compareOp Eq ref ref") => `(tactic| (k_here; (with_reducible show wpAny _ _ (compareOp CmpOp.Eq (Value.ref _) (Value.ref _)) _ _ _); k_dflt (refine' eq_tup ?N ?h1 ?h2 ?hk ?hm ?hu ?_; (case N => k_asm); (case h1 => k_mem); (case h2 => k_mem); (case hk => omega); (case hm => assumption); (case hu => ke_room))))
local macro_rules | `(tactic| walk_at "compareOp NotEq ref ref") => `(tactic| (k_here; (with_reducible show wpAny _ _ (compareOp CmpOp.NotEq (Value.ref _) (Value.ref _)) _ _ _); k_dflt (refine' ne_nil_cons ?N ?h1 ?h2 ?hi ?hu ?_; (case N => k_asm); (case h1 => k_mem); (case h2 => k_mem); (case hi => assumption); (case hu => ke_room))))
theorem f2_at {past k0 q pl : Int} (hpl : pl = (348 + past) % 365) (h0 : 0 ≤ k0 ∧ k0 < 18980) (e6 : (past + 348 + k0) % 365 = q % 365) : (q - pl) % 365 + (((k0 - (q - pl) % 365) / 365).toNat : Int) * 365 = k0 ∧ ((k0 - (q - pl) % 365) / 365).toNat < 52 := by
  subst hpl
  omega
theorem f2_p {past k0 dn ni : Int} (hd : 1 ≤ dn ∧ dn ≤ 13) (hn : 0 ≤ ni ∧ ni < 20) (e4 : (past + k0 + 4) % 13 = dn % 13) (e5 : (past + k0) % 20 = (ni + 1) % 20) : (past + k0 + 3) % 13 + 1 = dn ∧ (past + k0 + 19) % 20 = ni := by omega
theorem f2_q {past k dn ni pl q : Int} (j : Nat) (hpl : pl = (348 + past) % 365) (hj : j < 52) (hk : k = (q - pl) % 365 + (j : Int) * 365) (h : (past + k + 3) % 13 + 1 = dn ∧ (past + k + 19) % 20 = ni) :
    (0 ≤ k ∧ k < 18980) ∧ (past + k + 4) % 13 = dn % 13 ∧ (past + k) % 20 = (ni + 1) % 20 ∧ (past + 348 + k) % 365 = q % 365 := by
  obtain ⟨h1, h2⟩ := h
  refine ⟨by clear h1 h2 hpl; omega, by clear hk hj; omega, by clear hk hj; omega, by clear h1 h2; omega⟩
theorem f2_u {past k0 k1 dn ni q : Int} (h0 : 0 ≤ k0 ∧ k0 < 18980) (h1 : 0 ≤ k1 ∧ k1 < 18980) (a0 : (past + k0 + 4) % 13 = dn % 13) (a1 : (past + k1 + 4) % 13 = dn % 13) (b0 : (past + k0) % 20 = (ni + 1) % 20) (b1 : (past + k1) % 20 = (ni + 1) % 20)
    (c0 : (past + 348 + k0) % 365 = q % 365) (c1 : (past + 348 + k1) % 365 = q % 365) : k1 = k0 := by
  have x1 : (k1 - k0) % 13 = 0 := by rw [show k1 - k0 = (past + k1 + 4) - (past + k0 + 4) by omega]; exact Int.emod_eq_emod_iff_emod_sub_eq_zero.mp (a1.trans a0.symm)
  have x2 : (k1 - k0) % 20 = 0 := by rw [show k1 - k0 = (past + k1) - (past + k0) by omega]; exact Int.emod_eq_emod_iff_emod_sub_eq_zero.mp (b1.trans b0.symm)
  have x3 : (k1 - k0) % 365 = 0 := by rw [show k1 - k0 = (past + 348 + k1) - (past + 348 + k0) by omega]; exact Int.emod_eq_emod_iff_emod_sub_eq_zero.mp (c1.trans c0.symm)
  clear a0 a1 b0 b1 c0 c1
  omega
theorem z_past {z past : Int} (hz : z = 1168565 + 2 * past) : z / 2 - 584282 = past := by omega
theorem mod365 (q : Int) : 0 ≤ q % 365 ∧ q % 365 < 365 := by omega
theorem ni_lt {ni : Int} {nm : Str} (hm : (0 ≤ ni ∧ ni < 20 ∧ nm = nameAt ni) ∨ (ni = -1 ∧ nm = "Nobody")) (g : 0 ≤ ni) : 0 ≤ ni ∧ ni < 20 := by
  rcases hm with ⟨_, h, _⟩ | ⟨h, _⟩
  · exact ⟨g, h⟩
  · omega
theorem fit_nil {ws : List Value} {a c : Int} {n : Nat} {p : Int → Bool} (h : IntsAre ws ((stepList a c 0 n).filter p)) (hno : ∀ j : Nat, j < n → p (a + (j : Nat) * c) = false) : ws = [] := by
  have e : (stepList a c 0 n).filter p = [] := by
    rw [List.filter_eq_nil_iff]
    intro x hx
    obtain ⟨j, hj, rfl⟩ := List.mem_map.mp hx
    rw [hno j (by simpa using hj)]; exact Bool.false_ne_true
  rw [e] at h
  cases h; rfl
local macro_rules | `(tactic| walk_at "compareOp NotEq ref ref") => `(tactic| (k_here; (with_reducible show wpAny _ _ (compareOp CmpOp.NotEq (Value.ref _) (Value.ref _)) _ _ _); k_dflt (refine' ne_nil_nil ?N ?h1 ?h2 ?hu ?_; (case N => k_asm); (case h1 => k_mem); (case h2 => k_mem); (case hu => ke_room))))
theorem step52 {a : Int} (h : 0 ≤ a ∧ a < 365) : Builtin.Range.small a 18980 365 = true ∧ Builtin.Range.rangeSize a 18980 365 = ((52 : Nat) : Int) := by
  have q : ∀ i : Nat, i < 365 → Builtin.Range.small (i : Int) 18980 365 = true ∧ Builtin.Range.rangeSize (i : Int) 18980 365 = ((52 : Nat) : Int) := by decide +kernel
  have e : ((a.toNat : Nat) : Int) = a := by omega
  rw [← e]; exact q _ (by omega)
section
variable {w : World} {base : Heap} {mg mb : Str → Option Value} {mean : ExcName → Option Value} {L a : Addr} {cd : Value} {s : Shared} {Q : Flow → Shared → Prop} {E : Value → Shared → Prop} {rest : List Stmt}
set_option maxRecDepth 100000 in
set_option maxHeartbeats 4000000 in
theorem seg12g {l D Tn Hn Yn P En Wn Wh : Addr} {vs wn wh : List Value} {c wc wd : Nat} {a9 b9 c9 d9 dn dv past r1 kin r2 uin r3 tun bak kat pl z ni mi : Int} {nm mo : Str} {ta tb tc td tx t1 t2 t3 t4 t5 t6 t7 t8 u1 u2 u3 u4 u5 u6 u7 u8 tp tq : Tok} {x : UInt64} {oN oP : Obj} {ps qs : Array Value} {tv fv : Option Value}
    (X : (Mine.hd.heap_39 w.params).In base) (T : Top p0 loose0 mean mg mb base) (F : Fr base L s.heap (fun y => if y = "told" then tv else if y = "fits" then fv else if y = "wrong_haab" then some (.ref Wh) else if y = "wrong_names" then some (.ref Wn) else if y = "there" then some (.ref P) else if y = "here" then some (.ref En) else if y = "place" then some (.int pl tq) else if y = "year" then some (.ref Yn) else if y = "katun" then some (.int kat u8) else if y = "baktun" then some (.int bak u7) else if y = "tun" then some (.int tun u6) else if y = "rest" then some (.int r3 u5) else if y = "uinal" then some (.int uin u4) else if y = "rest" then some (.int r2 u3) else if y = "kin" then some (.int kin u2) else if y = "rest" then some (.int r1 u1) else if y = "haab" then some (.ref Hn) else if y = "day" then some (.int dv t3) else if y = "month" then some (.str mo t4) else if y = "d" then some (.int d9 td) else if y = "c" then some (.int c9 tc) else if y = "b" then some (.int b9 tb) else if y = "a" then some (.int a9 ta) else if y = "number" then some (.float x tx) else if y = "numbers" then some (.ref D) else if y = "script" then some (.ref l) else none))
    (N : News base L s.heap ((130, tabObj qs) :: (109, tabObj ps) :: (Tn, tup [.int dn t1, .str nm t2]) :: (Hn, tup [.int dv t3, .str mo t4]) :: (Wh, listOf wh.toArray wd) :: (Wn, listOf wn.toArray wc) :: (En, tup [.int ((past + 3) % 13 + 1) t7, .str (nameAt ((past + 19) % 20)) t8]) :: (P, tup [.int ((348 + past) % 365 % 20) t5, .str (moonAt ((348 + past) % 365 / 20)) t6]) :: (D, listOf vs.toArray c) :: (L + 1 + 1, oN) :: (L + 1, oP) :: []))
    (q1 : @LT.lt Nat _ 130 Tn) (q2 : @LT.lt Nat _ 130 Hn) (q3 : @LT.lt Nat _ 130 Wh) (q4 : @LT.lt Nat _ 130 Wn) (q5 : @LT.lt Nat _ 130 En) (q6 : @LT.lt Nat _ 130 P) (q7 : @LT.lt Nat _ 130 D) (q8 : @LT.lt Nat _ 130 L) (htr : TriplesOk ps.toList) (htr' : TriplesOk qs.toList) (G : AllBare s.gens)
    (hN : oN.data = .cell (some (.ref Tn))) (hP : oP.data = .cell (some (.int past tp))) (hp : 0 ≤ past ∧ past < 10000000) (hx : HV x z) (hz : z = 1168565 + 2 * past) (hpl : pl = (348 + past) % 365) (hm : (0 ≤ ni ∧ ni < 20 ∧ nm = nameAt ni) ∨ (ni = -1 ∧ nm = "Nobody")) (hm' : (0 ≤ mi ∧ mi < 19 ∧ mo = moonAt mi) ∨ (mi = -1 ∧ mo = "Nobody"))
    (g1 : 1 ≤ dn ∧ dn ≤ 13) (g2 : 0 ≤ ni) (e9 : wn = []) (g3 : 0 ≤ dv ∧ dv ≤ 19) (g4 : 0 ≤ mi) (e8 : wh = [])
    (k : ∀ h' gs d' tk' ps' qs' tv fv, TriplesOk ps'.toList → TriplesOk qs'.toList → AllBare gs → Fr base L h' (fun y => if y = "told" then tv else if y = "fits" then fv else if y = "wrong_haab" then some (.ref Wh) else if y = "wrong_names" then some (.ref Wn) else if y = "there" then some (.ref P) else if y = "here" then some (.ref En) else if y = "place" then some (.int pl tq) else if y = "year" then some (.ref Yn) else if y = "katun" then some (.int kat u8) else if y = "baktun" then some (.int bak u7) else if y = "tun" then some (.int tun u6) else if y = "rest" then some (.int r3 u5) else if y = "uinal" then some (.int uin u4) else if y = "rest" then some (.int r2 u3) else if y = "kin" then some (.int kin u2) else if y = "rest" then some (.int r1 u1) else if y = "haab" then some (.ref Hn) else if y = "day" then some (.int dv t3) else if y = "month" then some (.str mo t4) else if y = "d" then some (.int d9 td) else if y = "c" then some (.int c9 tc) else if y = "b" then some (.int b9 tb) else if y = "a" then some (.int a9 ta) else if y = "number" then some (.float x tx) else if y = "numbers" then some (.ref D) else if y = "script" then some (.ref l) else none) →
      News base L h' ((130, tabObj qs') :: (109, tabObj ps') :: (Tn, tup [.int dn t1, .str nm t2]) :: (Hn, tup [.int dv t3, .str mo t4]) :: (Wh, listOf wh.toArray wd) :: (Wn, listOf wn.toArray wc) :: (En, tup [.int ((past + 3) % 13 + 1) t7, .str (nameAt ((past + 19) % 20)) t8]) :: (P, tup [.int ((348 + past) % 365 % 20) t5, .str (moonAt ((348 + past) % 365 / 20)) t6]) :: (D, listOf vs.toArray c) :: (L + 1 + 1, oN) :: (L + 1, oP) :: []) →
      wpAny (model Challenge.rw_ak5005_01.row.prog w) (callerA.deeper (lawE L a cd)) (execs rest (lawE L a cd)) Q E { s with heap := h', gens := gs, drawn := d', toks := tk' }) :
    wpAny (model Challenge.rw_ak5005_01.row.prog w) (callerA.deeper (lawE L a cd)) (execs ((lawB.drop 28).take 2 ++ rest) (lawE L a cd)) Q E s := by
  subst e9 e8
  have hm9 := hm'
  rcases hm' with ⟨hm0, hm1, rfl⟩ | ⟨hm0, _⟩
  rotate_left
  · exfalso; omega
  (have B : Below callerA base [] base := below_caller _; revert X; k_fill; intro X; have e : lawB = (match Challenge.rw_ak5005_01.prog.main.body.getLast? with | some (.FunctionDef _ _ b _ _ _ _ _ _ _) => b | _ => []) := rfl; dsimp only [Challenge.rw_ak5005_01, Challenge.pw_ak5005_01, List.getLast?, List.getLast] at e; rw [e]; clear e; dsimp only [List.drop, List.take, List.cons_append, List.nil_append]); k_steps
  · (rename (_ = (20 * mi + dv - pl) % 365) => hc9)
    subst hc9
    have hni := ni_lt hm g2
    (rename (∃ _, _ ∧ _ ∧ _ ∧ _ ∧ _) => hk9)
    refine ⟨_, _, _, _, _, _, _, 52, _, fun k => decide ((past + k + 3) % 13 + 1 = dn ∧ (past + k + 19) % 20 = ni), rfl, rfl, by assumption, by assumption, by assumption, (step52 (mod365 _)).1, (step52 (mod365 _)).2, by decide, ?turn, ?fin⟩
    case turn =>
      intro h9 i9 k9 tt9 I9 oI9 C9 oC9 D9 ys9 m9 hh9 tk9 E9 hi9 hk9' hC9 hx9 F9 N9 off9 ne9
      simp only [LCg.Off3, and_true] at off9
      clear hk9
      k_steps
      refine ⟨_, _, rfl, ?_, by assumption, cb_drop (by assumption) (by intro q hq; (repeat (first | exact hq | refine List.Mem.tail _ ?_)))⟩
      (rename (_ = (past + k9 + 3) % 13) => d1)
      (rename (_ = (past + k9 + 19) % 20) => d2)
      rw [d1, d2]
    case fin =>
      intro D9 h9 tk9 ws9 F9 N9 o9 hw9
      obtain ⟨k0, e1, e2, e3, e4, e5, e6⟩ := hk9
      rw [z_past hz] at e4 e5 e6
      have a9 := f2_at hpl ⟨e2, e3⟩ e6
      obtain ⟨k1, t9, ws', j1, rfl, p1, j2, j3⟩ := fit_head hw9 (i := ((k0 - (20 * mi + dv - pl) % 365) / 365).toNat) a9.2 (by simp only [a9.1]; exact decide_eq_true (f2_p g1 hni e4 e5))
      have b9 := f2_q j1 hpl j2 j3 (of_decide_eq_true p1)
      have hkk := f2_u ⟨e2, e3⟩ b9.1 e4 b9.2.1 e5 b9.2.2.1 e6 b9.2.2.2
      clear b9 a9 j2 j3 p1 e4 e5 e6
      k_steps
      rename Fr _ _ _ _ => F8
      (try dsimp only at F8)
      have F8 := fr_fits' F8
      refine' k _ _ _ _ _ _ _ _ ?e1 ?e1' ?e2 ?e3 ?e4
      case e4 => exact cb_drop (by assumption) (by intro q hq; (repeat (first | exact hq | refine List.Mem.tail _ ?_)))
      case e3 => assumption
      case e1 => assumption
      case e1' => assumption
      case e2 => assumption
  · (rename (_ = (20 * mi + dv - pl) % 365) => hc9)
    subst hc9
    have hni := ni_lt hm g2
    (rename (_ ∨ _ ∨ _) => hk9)
    refine ⟨_, _, _, _, _, _, _, 52, _, fun k => decide ((past + k + 3) % 13 + 1 = dn ∧ (past + k + 19) % 20 = ni), rfl, rfl, by assumption, by assumption, by assumption, (step52 (mod365 _)).1, (step52 (mod365 _)).2, by decide, ?turn, ?fin⟩
    case turn =>
      intro h9 i9 k9 tt9 I9 oI9 C9 oC9 D9 ys9 m9 hh9 tk9 E9 hi9 hk9' hC9 hx9 F9 N9 off9 ne9
      simp only [LCg.Off3, and_true] at off9
      clear hk9
      k_steps
      refine ⟨_, _, rfl, ?_, by assumption, cb_drop (by assumption) (by intro q hq; (repeat (first | exact hq | refine List.Mem.tail _ ?_)))⟩
      (rename (_ = (past + k9 + 3) % 13) => d1)
      (rename (_ = (past + k9 + 19) % 20) => d2)
      rw [d1, d2]
    case fin =>
      intro D9 h9 tk9 ws9 F9 N9 o9 hw9
      obtain rfl : ws9 = [] := by
        rcases hk9 with h | h | ⟨_, _, h⟩
        · exact absurd g1 h
        · exact absurd ⟨g3.1, Int.lt_of_le_of_lt g3.2 (by decide)⟩ h
        · rw [z_past hz] at h
          exact fit_nil hw9 fun j hj => decide_eq_false fun hq => (fun b => h _ b.1 b.2.1 b.2.2.1 b.2.2.2) (f2_q j hpl hj rfl hq)
      clear hw9
      k_steps
      rename Fr _ _ _ _ => F8
      (try dsimp only at F8)
      have F8 := fr_fits' F8
      refine' k _ _ _ _ _ _ _ _ ?e1 ?e1' ?e2 ?e3 ?e4
      case e4 => exact cb_drop (by assumption) (by intro q hq; (repeat (first | exact hq | refine List.Mem.tail _ ?_)))
      case e3 => assumption
      case e1 => assumption
      case e1' => assumption
      case e2 => assumption
end
/-! part L13 -/
theorem offL13 : True := by
  w_top off
  trivial
open LCg PyProof.Rows
section
variable {w : World} {base : Heap} {mg mb : Str → Option Value} {mean : ExcName → Option Value} {L a : Addr} {cd : Value} {s : Shared} {Q : Flow → Shared → Prop} {E : Value → Shared → Prop} {rest : List Stmt}
set_option maxRecDepth 100000 in
set_option maxHeartbeats 4000000 in
theorem seg12 {l D Tn Hn Yn P En Wn Wh : Addr} {vs wn wh : List Value} {c wc wd : Nat} {a9 b9 c9 d9 dn dv past r1 kin r2 uin r3 tun bak kat pl z ni mi : Int} {nm mo : Str} {ta tb tc td tx t1 t2 t3 t4 t5 t6 t7 t8 u1 u2 u3 u4 u5 u6 u7 u8 tp tq : Tok} {x : UInt64} {oN oP : Obj} {ps qs : Array Value} {tv fv : Option Value}
    (X : (Mine.hd.heap_39 w.params).In base) (T : Top p0 loose0 mean mg mb base) (F : Fr base L s.heap (fun y => if y = "told" then tv else if y = "fits" then fv else if y = "wrong_haab" then some (.ref Wh) else if y = "wrong_names" then some (.ref Wn) else if y = "there" then some (.ref P) else if y = "here" then some (.ref En) else if y = "place" then some (.int pl tq) else if y = "year" then some (.ref Yn) else if y = "katun" then some (.int kat u8) else if y = "baktun" then some (.int bak u7) else if y = "tun" then some (.int tun u6) else if y = "rest" then some (.int r3 u5) else if y = "uinal" then some (.int uin u4) else if y = "rest" then some (.int r2 u3) else if y = "kin" then some (.int kin u2) else if y = "rest" then some (.int r1 u1) else if y = "haab" then some (.ref Hn) else if y = "day" then some (.int dv t3) else if y = "month" then some (.str mo t4) else if y = "d" then some (.int d9 td) else if y = "c" then some (.int c9 tc) else if y = "b" then some (.int b9 tb) else if y = "a" then some (.int a9 ta) else if y = "number" then some (.float x tx) else if y = "numbers" then some (.ref D) else if y = "script" then some (.ref l) else none))
    (N : News base L s.heap ((130, tabObj qs) :: (109, tabObj ps) :: (Tn, tup [.int dn t1, .str nm t2]) :: (Hn, tup [.int dv t3, .str mo t4]) :: (Wh, listOf wh.toArray wd) :: (Wn, listOf wn.toArray wc) :: (En, tup [.int ((past + 3) % 13 + 1) t7, .str (nameAt ((past + 19) % 20)) t8]) :: (P, tup [.int ((348 + past) % 365 % 20) t5, .str (moonAt ((348 + past) % 365 / 20)) t6]) :: (D, listOf vs.toArray c) :: (L + 1 + 1, oN) :: (L + 1, oP) :: []))
    (q1 : @LT.lt Nat _ 130 Tn) (q2 : @LT.lt Nat _ 130 Hn) (q3 : @LT.lt Nat _ 130 Wh) (q4 : @LT.lt Nat _ 130 Wn) (q5 : @LT.lt Nat _ 130 En) (q6 : @LT.lt Nat _ 130 P) (q7 : @LT.lt Nat _ 130 D) (q8 : @LT.lt Nat _ 130 L) (htr : TriplesOk ps.toList) (htr' : TriplesOk qs.toList) (G : AllBare s.gens)
    (hN : oN.data = .cell (some (.ref Tn))) (hP : oP.data = .cell (some (.int past tp))) (hp : 0 ≤ past ∧ past < 10000000) (hx : HV x z) (hz : z = 1168565 + 2 * past) (hpl : pl = (348 + past) % 365) (hm : (0 ≤ ni ∧ ni < 20 ∧ nm = nameAt ni) ∨ (ni = -1 ∧ nm = "Nobody")) (hm' : (0 ≤ mi ∧ mi < 19 ∧ mo = moonAt mi) ∨ (mi = -1 ∧ mo = "Nobody"))
    (hw : Wrong (1 ≤ dn ∧ dn ≤ 13) (0 ≤ ni) wn) (hv : Wrong (0 ≤ dv ∧ dv ≤ 19) (0 ≤ mi) wh)
    (k : ∀ h' gs d' tk' ps' qs' tv fv, TriplesOk ps'.toList → TriplesOk qs'.toList → AllBare gs → Fr base L h' (fun y => if y = "told" then tv else if y = "fits" then fv else if y = "wrong_haab" then some (.ref Wh) else if y = "wrong_names" then some (.ref Wn) else if y = "there" then some (.ref P) else if y = "here" then some (.ref En) else if y = "place" then some (.int pl tq) else if y = "year" then some (.ref Yn) else if y = "katun" then some (.int kat u8) else if y = "baktun" then some (.int bak u7) else if y = "tun" then some (.int tun u6) else if y = "rest" then some (.int r3 u5) else if y = "uinal" then some (.int uin u4) else if y = "rest" then some (.int r2 u3) else if y = "kin" then some (.int kin u2) else if y = "rest" then some (.int r1 u1) else if y = "haab" then some (.ref Hn) else if y = "day" then some (.int dv t3) else if y = "month" then some (.str mo t4) else if y = "d" then some (.int d9 td) else if y = "c" then some (.int c9 tc) else if y = "b" then some (.int b9 tb) else if y = "a" then some (.int a9 ta) else if y = "number" then some (.float x tx) else if y = "numbers" then some (.ref D) else if y = "script" then some (.ref l) else none) →
      News base L h' ((130, tabObj qs') :: (109, tabObj ps') :: (Tn, tup [.int dn t1, .str nm t2]) :: (Hn, tup [.int dv t3, .str mo t4]) :: (Wh, listOf wh.toArray wd) :: (Wn, listOf wn.toArray wc) :: (En, tup [.int ((past + 3) % 13 + 1) t7, .str (nameAt ((past + 19) % 20)) t8]) :: (P, tup [.int ((348 + past) % 365 % 20) t5, .str (moonAt ((348 + past) % 365 / 20)) t6]) :: (D, listOf vs.toArray c) :: (L + 1 + 1, oN) :: (L + 1, oP) :: []) →
      wpAny (model Challenge.rw_ak5005_01.row.prog w) (callerA.deeper (lawE L a cd)) (execs rest (lawE L a cd)) Q E { s with heap := h', gens := gs, drawn := d', toks := tk' }) :
    wpAny (model Challenge.rw_ak5005_01.row.prog w) (callerA.deeper (lawE L a cd)) (execs ((lawB.drop 28).take 2 ++ rest) (lawE L a cd)) Q E s := by
  have hv9 := hv
  obtain ⟨w1, w2, ⟨g1, g2, e⟩ | ⟨g1, g2, e⟩ | ⟨g1, g2, e⟩ | ⟨g1, g2, e⟩⟩ := hw
  · obtain ⟨w3, w4, ⟨g3, g4, e8⟩ | ⟨g3, g4, e8⟩ | ⟨g3, g4, e8⟩ | ⟨g3, g4, e8⟩⟩ := hv
    · exact seg12g X T F N q1 q2 q3 q4 q5 q6 q7 q8 htr htr' G hN hP hp hx hz hpl hm hm' g1 g2 e g3 g4 e8 k
    · exact seg12a X T F N q1 q2 q3 q4 q5 q6 q7 q8 htr htr' G hN hP hp hx hz hpl hm hm' g1 g2 (w1 := w1) (w2 := w2) e hv9 (fun q => g3 ⟨q.1, q.2.1⟩) k
    · exact seg12a X T F N q1 q2 q3 q4 q5 q6 q7 q8 htr htr' G hN hP hp hx hz hpl hm hm' g1 g2 (w1 := w1) (w2 := w2) e hv9 (fun q => g4 q.2.2) k
    · exact seg12a X T F N q1 q2 q3 q4 q5 q6 q7 q8 htr htr' G hN hP hp hx hz hpl hm hm' g1 g2 (w1 := w1) (w2 := w2) e hv9 (fun q => g4 q.2.2) k
  · exact seg12b X T F N q1 q2 q3 q4 q5 q6 q7 q8 htr htr' G hN hP hp hx hz hpl hm hm' g1 g2 (w1 := w1) (w2 := w2) e hv9 k
  · exact seg12c X T F N q1 q2 q3 q4 q5 q6 q7 q8 htr htr' G hN hP hp hx hz hpl hm hm' g1 g2 (w1 := w1) (w2 := w2) e hv9 k
  · exact seg12d X T F N q1 q2 q3 q4 q5 q6 q7 q8 htr htr' G hN hP hp hx hz hpl hm hm' g1 g2 (w1 := w1) (w2 := w2) e hv9 k
set_option maxRecDepth 100000 in
set_option maxHeartbeats 1000000 in
theorem seg13 {l D Tn Hn Yn P En Wn Wh : Addr} {vs' wn wh : List Value} {x0 x1 x2 x3 x4 : Int} {s0 s1 s2 s3 s4 : Tok} {c wc wd : Nat} {a9 b9 c9 d9 dn dv past r1 kin r2 uin r3 tun bak kat pl z ni mi : Int} {nm mo : Str} {ta tb tc td tx t1 t2 t3 t4 t5 t6 t7 t8 u1 u2 u3 u4 u5 u6 u7 u8 tp tq : Tok} {x : UInt64} {oN oP : Obj} {ps qs : Array Value} {tv fv : Option Value}
    (X : (Mine.hd.heap_39 w.params).In base) (T : Top p0 loose0 mean mg mb base) (F : Fr base L s.heap (fun y => if y = "told" then tv else if y = "fits" then fv else if y = "wrong_haab" then some (.ref Wh) else if y = "wrong_names" then some (.ref Wn) else if y = "there" then some (.ref P) else if y = "here" then some (.ref En) else if y = "place" then some (.int pl tq) else if y = "year" then some (.ref Yn) else if y = "katun" then some (.int kat u8) else if y = "baktun" then some (.int bak u7) else if y = "tun" then some (.int tun u6) else if y = "rest" then some (.int r3 u5) else if y = "uinal" then some (.int uin u4) else if y = "rest" then some (.int r2 u3) else if y = "kin" then some (.int kin u2) else if y = "rest" then some (.int r1 u1) else if y = "haab" then some (.ref Hn) else if y = "day" then some (.int dv t3) else if y = "month" then some (.str mo t4) else if y = "d" then some (.int d9 td) else if y = "c" then some (.int c9 tc) else if y = "b" then some (.int b9 tb) else if y = "a" then some (.int a9 ta) else if y = "number" then some (.float x tx) else if y = "numbers" then some (.ref D) else if y = "script" then some (.ref l) else none))
    (N : News base L s.heap ((130, tabObj qs) :: (109, tabObj ps) :: (Tn, tup [.int dn t1, .str nm t2]) :: (Hn, tup [.int dv t3, .str mo t4]) :: (Wh, listOf wh.toArray wd) :: (Wn, listOf wn.toArray wc) :: (En, tup [.int ((past + 3) % 13 + 1) t7, .str (nameAt ((past + 19) % 20)) t8]) :: (P, tup [.int ((348 + past) % 365 % 20) t5, .str (moonAt ((348 + past) % 365 / 20)) t6]) :: (D, listOf (.int x0 s0 :: .int x1 s1 :: .int x2 s2 :: .int x3 s3 :: .int x4 s4 :: vs').toArray c) :: (L + 1 + 1, oN) :: (L + 1, oP) :: []))
    (q1 : @LT.lt Nat _ 130 Tn) (q2 : @LT.lt Nat _ 130 Hn) (q3 : @LT.lt Nat _ 130 Wh) (q4 : @LT.lt Nat _ 130 Wn) (q5 : @LT.lt Nat _ 130 En) (q6 : @LT.lt Nat _ 130 P) (q7 : @LT.lt Nat _ 130 D) (q8 : @LT.lt Nat _ 130 L) (htr : TriplesOk ps.toList) (htr' : TriplesOk qs.toList) (G : AllBare s.gens)
    (hN : oN.data = .cell (some (.ref Tn))) (hm : (0 ≤ ni ∧ ni < 20 ∧ nm = nameAt ni) ∨ (ni = -1 ∧ nm = "Nobody")) (hm' : (0 ≤ mi ∧ mi < 19 ∧ mo = moonAt mi) ∨ (mi = -1 ∧ mo = "Nobody")) (b0 : -10000000 < x0 ∧ x0 < 10000000)
    (k : ∀ h' gs d' tk' ps' qs' m', AllBare gs → Fr base L h' m' → News base L h' [(130, tabObj qs'), (109, tabObj ps')] →
      Q (.ret (.bool true)) { s with heap := h', gens := gs, drawn := d', toks := tk' }) :
    wpAny (model Challenge.rw_ak5005_01.row.prog w) (callerA.deeper (lawE L a cd)) (execs ((lawB.drop 30).take 2 ++ rest) (lawE L a cd)) Q E s := by
  (have B : Below callerA base [] base := below_caller _; revert X; k_fill; intro X; have e : lawB = (match Challenge.rw_ak5005_01.prog.main.body.getLast? with | some (.FunctionDef _ _ b _ _ _ _ _ _ _) => b | _ => []) := rfl; dsimp only [Challenge.rw_ak5005_01, Challenge.pw_ak5005_01, List.getLast?, List.getLast] at e; rw [e]; clear e; dsimp only [List.drop, List.take, List.cons_append, List.nil_append]); k_steps
  all_goals (
    refine' k _ _ _ _ _ _ _ ?e2 ?e3 ?e4
    case e4 => exact cb_drop (by assumption) (sub_cons (by k_mem) (sub_cons (by k_mem) fun q hq => by cases hq))
    case e3 => assumption
    case e2 => assumption)
end
/-! part L14 -/
theorem offL14 : True := by
  w_top off
  trivial
open LCg PyProof.Rows
theorem seg_split (m n k : Nat) (h : m + n = k) : lawB.drop m = (lawB.drop m).take n ++ lawB.drop k := by rw [← h, ← List.drop_drop, List.take_append_drop]
section
variable {w : World} {base : Heap} {mg mb : Str → Option Value} {mean : ExcName → Option Value} {L a : Addr} {cd : Value} {s : Shared} {Q : Flow → Shared → Prop} {E : Value → Shared → Prop} {rest : List Stmt}
set_option maxRecDepth 100000 in
set_option maxHeartbeats 4000000 in
theorem law_walk {l : Addr} {vs : List Value} {ns : List Int} {oN oP : Obj} (X : (Mine.hd.heap_39 w.params).In base) (T : Top p0 loose0 mean mg mb base) (F : Fr base L s.heap (fun y => if y = "script" then some (.ref l) else none))
    (N : News base L s.heap [(L + 1 + 1, oN), (L + 1, oP), (109, tabObj #[]), (130, tabObj #[])]) (hN : oN.data = .cell none) (hP : oP.data = .cell none) (hl : base.IsList l vs.toArray) (hi : IntsAre vs ns) (hlen : ns.length ≤ 63) (G : AllBare s.gens) (q8 : @LT.lt Nat _ 130 L)
    (k : ∀ h' gs d' tk' ps' qs' m', AllBare gs → Fr base L h' m' → News base L h' [(130, tabObj qs'), (109, tabObj ps')] →
      Q (.ret (.bool true)) { s with heap := h', gens := gs, drawn := d', toks := tk' }) :
    wpAny (model Challenge.rw_ak5005_01.row.prog w) (callerA.deeper (lawE L a cd)) (execs lawB (lawE L a cd)) Q E s := by
  rw [show lawB = lawB.take 1 ++ lawB.drop 1 from (List.take_append_drop 1 lawB).symm]
  refine seg0 X T F N hN hP hl hi hlen fun h0 tk0 D vs' c x0 x1 x2 x3 x4 s0 s1 s2 s3 s4 b0 _ _ _ _ q7 F N => ?_
  rw [seg_split 1 6 7 rfl]
  refine seg1 X T F N hN hP b0 fun h1 tk1 oP past tp x z tx a9 ta b9 tb c9 tc d9 td hP hpp hx hz ba bb bc bd F N => ?_
  have hp : 0 ≤ past ∧ past < 10000000 := ⟨hpp.1, hpp.2.1⟩
  rw [seg_split 7 1 8 rfl]
  refine seg2 X T F N hN ba bb fun h2 tk2 oN Tn dn t1 ni nm t2 hN hdn hm q1 F N => ?_
  rw [seg_split 8 1 9 rfl]
  refine seg3 X T F N bd fun h3 tk3 mi mo t4 hm' F N => ?_
  rw [seg_split 9 1 10 rfl]
  refine seg4 X T F N bc hm' fun h4 tk4 dv t3 hdv F N => ?_
  rw [seg_split 10 5 15 rfl]
  refine seg5 X T F N hP hp fun h5 tk5 Hn r1 kin r2 uin r3 tun bak kat u1 u2 u3 u4 u5 u6 u7 u8 q2 b1 b2 b3 b4 b5 b6 F N => ?_
  rw [seg_split 15 1 16 rfl]
  refine seg6 (past := past) X T F N fun h6 tk6 Yn ys P t5 t6 hy q6 _ F N => ?_
  rw [seg_split 16 3 19 rfl]
  refine seg7 X T F N hP hp hy fun h7 tk7 pl tq En t7 t8 hpl q5 F N => ?_
  rw [seg_split 19 1 20 rfl]
  refine seg8a (tp := tp) X T F N hp hx hz b1 b2 b3 b4 b5 b6 fun h8 tk8 F N => ?_
  rw [seg_split 20 1 21 rfl]
  refine seg8b (tp := tp) X T F N hp hx hz b1 b2 b3 b4 b5 b6 fun h8 tk8 F N => ?_
  rw [seg_split 21 1 22 rfl]
  refine seg8c (tp := tp) X T F N hp hx hz b1 b2 b3 b4 b5 b6 fun h8 tk8 F N => ?_
  rw [seg_split 22 1 23 rfl]
  refine seg8d (tp := tp) X T F N hp hx hz b1 b2 b3 b4 b5 b6 fun h8 tk8 F N => ?_
  rw [seg_split 23 1 24 rfl]
  refine seg9a (tp := tp) (Wn := 0) (wn := []) (wc := 0) (mi := 0) (z := 0) X T F N hN hm fun h9 tk9 Wn wn wc hw q4 F N => ?_
  rw [seg_split 24 1 25 rfl]
  refine seg9b (tp := tp) (ni := 0) (z := 0) X T F N hm' fun h10 tk10 Wh wh wd hv q3 F N => ?_
  have N := cb_drop (news := (130, tabObj #[]) :: (109, tabObj #[]) :: (Tn, tup [.int dn t1, .str nm t2]) :: (Hn, tup [.int dv t3, .str mo t4]) :: (Wh, listOf wh.toArray wd) :: (Wn, listOf wn.toArray wc) :: (En, tup [.int ((past + 3) % 13 + 1) t7, .str (nameAt ((past + 19) % 20)) t8]) :: (P, tup [.int ((348 + past) % 365 % 20) t5, .str (moonAt ((348 + past) % 365 / 20)) t6]) :: (D, listOf (.int x0 s0 :: .int x1 s1 :: .int x2 s2 :: .int x3 s3 :: .int x4 s4 :: vs').toArray c) :: (L + 1 + 1, oN) :: (L + 1, oP) :: []) N
    (sub_cons (by k_mem) (sub_cons (by k_mem) (sub_cons (by k_mem) (sub_cons (by k_mem) (sub_cons (by k_mem) (sub_cons (by k_mem) (sub_cons (by k_mem) (sub_cons (by k_mem) (sub_cons (by k_mem) (sub_cons (by k_mem) (sub_cons (by k_mem) (fun q hq => by cases hq))))))))))))
  rw [seg_split 25 2 27 rfl]
  refine seg10 (mi := 0) X T F N q1 q2 q3 q4 q5 q6 q7 q8 trivial trivial G hN hP hp hx hz hm hw fun h11 gs d1 tk11 ps tv fv htr G F N => ?_
  rw [seg_split 27 1 28 rfl]
  refine seg11 (tp := tp) (ni := 0) X T F N q1 q2 q3 q4 q5 q6 q7 q8 hN hp hx hz hpl hm' fun h12 tk12 F N => ?_
  rw [seg_split 28 2 30 rfl]
  refine seg12 X T F N q1 q2 q3 q4 q5 q6 q7 q8 htr trivial G hN hP hp hx hz hpl hm hm' hw hv fun h13 gs d2 tk13 ps qs tv fv htr htr' G F N => ?_
  rw [seg_split 30 2 32 rfl]
  refine seg13 (tp := tp) (z := 0) X T F N q1 q2 q3 q4 q5 q6 q7 q8 htr htr' G hN hm hm' b0 fun h14 gs d3 tk14 ps qs m' G F N => ?_
  exact k _ _ _ _ _ _ _ G F N
end
/-! part L15 -/
theorem offL15 : True := by
  w_top off
  trivial
open PySem.Spec
set_option maxRecDepth 100000
section
variable {h₁ h : Heap} {L : Addr} {tabs : List (Addr × Addr)} {m mg mb : Str → Option Value} {K : Frag} {p : Program} {loose : List Str} {mean : ExcName → Option Value}
/-- what is known of the top, over the heap without the two tables -/
theorem law_top (hT : TabsAt tabs h₁) (T : Top p loose mean mg mb h₁) (hs : ∀ x ∈ loose ++ (recsOf p).map (·.name) ++ (litsOf p).map (·.1) ++ (clssOf p loose).map (·.name), x ∈ loose0) :
    Top p0 loose0 mean mg mb (ghostOf h₁ tabs) where
  g := ghost_ns hT T.g
  b := ghost_ns hT T.b
  nolimit := let ⟨mc, a, r⟩ := T.nolimit; ⟨mc, ghost_ns hT a, r⟩
  nodigits := let ⟨mc, a, r⟩ := T.nodigits; ⟨mc, ghost_ns hT a, r⟩
  fn := fun d hd => absurd (show d ∈ ([] : List DefRec) from hd) List.not_mem_nil
  own := fun o ho => absurd (show o ∈ ([] : List OwnSpec) from ho) List.not_mem_nil
  const := fun x d e => by cases (show (none : Option PyData) = some d from e)
  free := fun x h1 h2 _ _ _ => T.free x h1 (fun q => h2 (hs x (List.mem_append_left _ (List.mem_append_left _ (List.mem_append_left _ q)))))
    (fun q => h2 (hs x (List.mem_append_left _ (List.mem_append_left _ (List.mem_append_right _ q))))) (fun q => h2 (hs x (List.mem_append_left _ (List.mem_append_right _ q)))) fun q => h2 (hs x (List.mem_append_right _ q))
  builtins := T.builtins
  tab := fun d hd => absurd (show d ∈ ([] : List DefRec) from hd) List.not_mem_nil
  bmain := let ⟨bm, ob, a1, a2, a3, a4, r⟩ := T.bmain; ⟨bm, ob, a1, a2, ghost_get hT a3 (fun q => by rw [q] at a4; cases a4), a4, r⟩
  seer := fun e => absurd (show false = true from e) Bool.false_ne_true
end
/-- how the law must have ended -/
def LawEnd (cw : ClaimW) (args : List WData) (s₁ : Shared) (tabs : List (Addr × Addr)) (r : Result) (s' : Shared) : Prop :=
  r = .ok (.ret (.bool true)) ∧ (∀ b o, (ghostOf s₁.heap tabs).get? b = some o → s'.heap.get? b = some o) ∧ s'.os = s₁.os ∧ AllBare s'.gens ∧ GrownAll tabs s'.heap
theorem law_post {M : Model} {A : Around} {cd : Code} {s s₁ : Shared} {cw : ClaimW} {cl : Str → Option Addr} {mean : ExcName → Option Value} {args : List WData} {tabs : List (Addr × Addr)} (hT : TabsAt tabs s₁.heap) (hr : ∀ a x, cw.raises a x = false) (hp : cw.post args (.bool true) args = true)
    (h : codeAny M A cd (LawEnd cw args s₁ tabs) s) : codeAny M A cd (GoodWG cw cl mean args s₁) s :=
  codeAny_mono h fun r s' ⟨he, hk, hos, hg, hgr⟩ => by
    subst he
    refine ⟨.inl ⟨.bool true, .bool true, [], rfl, fun x => hr _ x, .bool true, hp, fun _ => ⟨List.nodup_nil, fun a ha => absurd ha List.not_mem_nil⟩⟩, ⟨fun b o e => ?_, fun b o e => ?_⟩, hos, hg⟩
    · by_cases hb : b ∈ tabs.map (·.2)
      · obtain ⟨q, hq, rfl⟩ := List.mem_map.mp hb
        have e2 := (hT q hq).2
        rw [e] at e2
        obtain rfl := Option.some.inj e2
        obtain ⟨ps, hP⟩ := hgr.get q hq
        exact .inr (.inl ⟨((hT q hq).1.tab (hT q hq).2).isCodeTable, rfl, #[], ps, rfl, by rw [Array.empty_append]; exact hP⟩)
      · exact .inl (hk b o (ghost_ne e hb))
    · by_cases hb : b ∈ tabs.map (·.2)
      · obtain ⟨q, hq, rfl⟩ := List.mem_map.mp hb
        obtain ⟨ps, hP⟩ := hgr.get q hq
        exact ⟨_, hP⟩
      · exact ⟨o, hk b o (ghost_ne e hb)⟩
set_option maxHeartbeats 4000000 in
theorem lawT : Challenge.rw_ak5005_01.Holds := Mine.hd (by
  k_fill
  intro w s₀ s₁ mg mb G Y fa o pm cd doc dV kV ho hd hcd hD hmg hg args vals as hpre hlay hrd hwl hlo
  have KX := kIn_of Y
  have X := (Ground.X G).1
  have V := (Ground.X G).2
  refine Ground.open G ?_
  intro T B D TE TW
  try (refine guard_noD D (by decide +kernel) ?_; clear D)
  have hT9 : TabsAt [(113,109),(134,130)] s₁.heap := List.forall_mem_cons.mpr ⟨tab_of (x := ("_tzolkin_count" : Str)) (c := 113) (P := 109) T KX rfl (by kernel_rfl), List.forall_mem_cons.mpr ⟨tab_of (x := ("next_tzolkin_haab" : Str)) (c := 134) (P := 130) T KX rfl (by kernel_rfl), fun _ h => nomatch h⟩⟩
  have KG := ghost_K hT9 KX (by kernel_rfl)
  have TG := law_top hT9 T (by decide +kernel)
  clear hmg X V B TE TW G
  wrow_args hpre hlay hrd hwl hlo
  all_goals (
    first | refine callC_kw (enter_call ?_) | refine enter_call ?_
    w_top on
    refine law_post hT9 ?hr ?hp ?_
    case hr => intro a x; first | rfl | exact raisesW_false (by wrow_none_raised) _
    case hp => first | kc_post | exact postW_of (by wrow_shape) (w_eq_bool (w_res rfl) w_lit) rfl | exact postW_of (by wrow_shape) (by wtm_val) (by w_fin)
    w_call any ho hd hcd hD T F
    clear hd
    rename_i ns hs hlay0 hL1 hr1 hl2 w6 w5 l vs w2 hl ra w1 r0 hI hr hlen hc h1 tk1 oN oP hoN hoP N X0
    clear X0 hs hlay0 hL1 hr1 hl2 ra w1 r0 hr hc
    have F1 : Fr s₁.heap s₁.heap.objs.size h1 (fun y => if y = "script" then some (.ref l) else none) := F
    clear F
    have hN : oN.data = .cell none := hoN
    have hP : oP.data = .cell none := hoP
    clear hoN hoP hD ho hcd
    have N1 : News (ghostOf s₁.heap [(113,109),(134,130)]) s₁.heap.objs.size h1 [(s₁.heap.objs.size + 1 + 1, oN), (s₁.heap.objs.size + 1, oP), (109, tabObj #[]), (130, tabObj #[])] := ghost_news hT9 F1 N
    have q8 : @LT.lt Nat _ 130 s₁.heap.objs.size := ghost_lt hT9 F1 _ (List.mem_cons_of_mem _ (List.mem_cons_self))
    have F2 := ghost_fr hT9 F1
    have hl2 := ghost_list hT9 hl
    clear N F1 hl
    change wpAny (model Challenge.rw_ak5005_01.row.prog w) (callerA.deeper (lawE s₁.heap.objs.size fa cd)) (execs lawB (lawE s₁.heap.objs.size fa cd)) _ _ _
    refine law_walk (base := ghostOf s₁.heap [(113,109),(134,130)]) (l := l) (vs := vs) (ns := ns) KG TG F2 N1 hN hP hl2 hI ?_ (AllBare.of_eq hg) q8 ?_
    · omega
    · intro h' gs d' tk' ps qs m' G' F' N'
      exact ⟨rfl, F'.keep, rfl, G', GrownAt.of N' (.tail _ (.head _)), GrownAt.of N' (.head _), trivial⟩))
end Mine
theorem PySem.Challenge.cw_ak5005_01_holds : PySem.Challenge.rw_ak5005_01.Holds :=
  Mine.lawT
