import PyProof.Rows.All
import Wide.All
import OpenK.AllK
import Wide.FinOn
import PySem.Challenge.RW_ad5016_01
open PySem PySem.W PyProof.Rows
set_option Elab.async false
namespace Mine
section
open PySem.Float64

theorem repr_ex {k e : Nat} (hk : k < 2 ^ 53) (he : 52 ≤ e) (he2 : e ≤ 1900) : ∃ t, t < infMag ∧ V t = k * 2 ^ e := by
  by_cases h0 : k = 0
  · subst h0
    exact ⟨0, by decide, by rw [V_zero]; simp⟩
  · have hl1 := Nat.log2_self_le h0
    have hl2 := @Nat.lt_log2_self k
    have hl : k.log2 ≤ 52 := by
      rcases Nat.lt_or_ge 52 k.log2 with h | h
      · have : 2 ^ 53 ≤ 2 ^ k.log2 := Nat.pow_le_pow_right (by decide) h
        omega
      · exact h
    generalize hL : k.log2 = l at *
    have e1 : 2 ^ l * 2 ^ (52 - l) = 2 ^ 52 := by rw [← Nat.pow_add]; congr 1; omega
    have e2 : 2 ^ (l + 1) * 2 ^ (52 - l) = 2 ^ 53 := by rw [← Nat.pow_add]; congr 1; omega
    have q1 : 2 ^ 52 ≤ k * 2 ^ (52 - l) := by rw [← e1]; exact Nat.mul_le_mul_right _ hl1
    have q2 : k * 2 ^ (52 - l) < 2 ^ 53 := by rw [← e2]; exact Nat.mul_lt_mul_of_pos_right hl2 (Nat.two_pow_pos _)
    refine ⟨(e - (52 - l)) * 2 ^ 52 + k * 2 ^ (52 - l), ?_, ?_⟩
    · have hi : infMag = 2047 * 2 ^ 52 := rfl
      rw [hi]
      have : (e - (52 - l)) * 2 ^ 52 ≤ 1900 * 2 ^ 52 := Nat.mul_le_mul_right _ (by omega)
      omega
    · rw [V_at (by omega) (.inl q1), Nat.mul_assoc, ← Nat.pow_add]
      congr 2
      omega

theorem big_ne {k e : Nat} (hk : k < 2 ^ 53) (he2 : e ≤ 1900) : ¬ (2 ^ 54 - 1) * 2 ^ 2045 ≤ 2 * (k * 2 ^ e) := by
  have h1 : k * 2 ^ e ≤ 2 ^ 53 * 2 ^ 1900 := Nat.mul_le_mul (Nat.le_of_lt hk) (Nat.pow_le_pow_right (by decide) he2)
  have h2 : 2 * (2 ^ 53 * 2 ^ 1900) < (2 ^ 54 - 1) * 2 ^ 2045 := by decide +kernel
  intro h
  exact absurd (Nat.lt_of_le_of_lt (Nat.le_trans h (Nat.mul_le_mul_left 2 h1)) h2) (Nat.lt_irrefl _)

theorem right_exact {r : UInt64} {neg : Bool} {W D k e : Nat} (h : Right r neg W D) (hD : 0 < D) (hW : W = D * (k * 2 ^ e)) (hk : k < 2 ^ 53) (he : 52 ≤ e) (he2 : e ≤ 1900) :
    (∃ m f, decode r = .fin neg m f) ∧ val r = sgn neg (k * 2 ^ e) := by
  obtain ⟨t, rfl, ht, hinf, hn⟩ := h
  have hne : t ≠ infMag := by
    intro h
    have h2 := hinf.mp h
    rw [hW, show 2 * (D * (k * 2 ^ e)) = D * (2 * (k * 2 ^ e)) by ac_rfl] at h2
    exact big_ne hk he2 (Nat.le_of_mul_le_mul_left h2 hD)
  have hlt : t < infMag := Nat.lt_of_le_of_ne ht hne
  obtain ⟨t', ht', hV⟩ := repr_ex hk he he2
  have hd := (hn hlt t').1
  rw [hV, ← hW] at hd
  have e0 : dist W W = 0 := by unfold dist; omega
  rw [e0] at hd
  have e1 : D * V t = W := by unfold dist at hd; omega
  rw [hW] at e1
  have e2 : V t = k * 2 ^ e := Nat.eq_of_mul_eq_mul_left hD e1
  obtain ⟨m, f, hdec, _⟩ := decode_pack neg hlt
  exact ⟨⟨m, f, hdec⟩, by rw [val_pack neg hlt, e2]⟩

theorem right_between {r : UInt64} {neg : Bool} {W D k l e : Nat} (h : Right r neg W D) (hD : 0 < D) (hk : k < 2 ^ 53) (hl : l < 2 ^ 53) (he : 52 ≤ e) (he2 : e ≤ 1900)
    (h1 : D * (k * 2 ^ e) ≤ W) (h2 : W ≤ D * (l * 2 ^ e)) :
    ∃ v, (∃ m f, decode r = .fin neg m f) ∧ val r = sgn neg v ∧ k * 2 ^ e ≤ v ∧ v ≤ l * 2 ^ e := by
  obtain ⟨t, rfl, ht, hinf, hn⟩ := h
  have hne : t ≠ infMag := by
    intro h
    have h3 := Nat.le_trans (hinf.mp h) (Nat.mul_le_mul_left 2 h2)
    rw [show 2 * (D * (l * 2 ^ e)) = D * (2 * (l * 2 ^ e)) by ac_rfl] at h3
    exact big_ne hl he2 (Nat.le_of_mul_le_mul_left h3 hD)
  have hlt : t < infMag := Nat.lt_of_le_of_ne ht hne
  obtain ⟨m, f, hdec, _⟩ := decode_pack neg hlt
  refine ⟨V t, ⟨m, f, hdec⟩, val_pack neg hlt, ?_, ?_⟩
  · obtain ⟨t', ht', hV⟩ := repr_ex hk he he2
    have hd := (hn hlt t').1
    rw [hV] at hd
    rcases Nat.lt_or_ge (V t) (k * 2 ^ e) with h | h
    · have := Nat.mul_lt_mul_of_pos_left h hD
      unfold dist at hd
      omega
    · exact h
  · obtain ⟨t', ht', hV⟩ := repr_ex hl he he2
    have hd := (hn hlt t').1
    rw [hV] at hd
    rcases Nat.lt_or_ge (l * 2 ^ e) (V t) with h | h
    · have := Nat.mul_lt_mul_of_pos_left h hD
      unfold dist at hd
      omega
    · exact h

/-- the float x is the number n / 2 -/
def IsH (x : UInt64) (n : Int) : Prop := (∃ a m e, decode x = .fin a m e) ∧ val x = n * 2 ^ 1073

theorem sgn_dec (i : Int) (k : Nat) : sgn (decide (i < 0)) (i.natAbs * k) = i * (k : Int) := by
  rw [sgn_mul]
  congr 1
  unfold sgn
  by_cases h : i < 0
  · simp only [h, decide_true, if_true]; omega
  · simp only [h, decide_false, Bool.false_eq_true, if_false]; omega

theorem pow_cast (n : Nat) : ((2 ^ n : Nat) : Int) = (2 : Int) ^ n := by simp

theorem two_1074 : (2 : Int) ^ 1074 = (2 : Int) ^ 1073 * 2 := Int.pow_succ 2 1073
theorem sgn_zero (b : Bool) : sgn b 0 = 0 := by cases b <;> rfl
theorem isH_ofInt {i : Int} (h : i.natAbs < 2 ^ 53) : IsH (ofInt i) (2 * i) := by
  obtain ⟨⟨m, f, hd⟩, hv⟩ := right_exact (k := i.natAbs) (e := 1074) (ofInt_right i) (by decide) (by rw [Nat.one_mul]) h (by decide) (by decide)
  refine ⟨⟨_, m, f, hd⟩, ?_⟩
  rw [hv, sgn_dec, pow_cast, show (1074 : Nat) = 1073 + 1 from rfl, Int.pow_succ]
  generalize (2 : Int) ^ 1073 = Z
  rw [Int.mul_comm 2 i, Int.mul_assoc, Int.mul_comm 2 Z]

theorem zero_isH (b : Bool) : IsH (zero b) 0 := by
  have hv := val_pack b (t := 0) (by decide)
  obtain ⟨m, f, hd, _⟩ := decode_pack b (t := 0) (by decide)
  refine ⟨⟨b, m, f, hd⟩, ?_⟩
  show val (pack b 0) = _
  rw [hv, V_zero]
  unfold sgn
  simp

theorem mul_natAbs (n : Int) (k : Nat) : (n * (2 : Int) ^ k).natAbs = n.natAbs * 2 ^ k := by
  rw [Int.natAbs_mul, ← pow_cast, Int.natAbs_natCast]

theorem mul_pow_neg (n : Int) (k : Nat) : decide (n * (2 : Int) ^ k < 0) = decide (n < 0) := by
  have hp : (0 : Int) < (2 : Int) ^ k := by rw [← pow_cast]; exact Int.ofNat_lt.mpr (Nat.two_pow_pos _)
  apply decide_eq_decide.mpr
  constructor
  · intro h
    by_cases h2 : n < 0
    · exact h2
    · have := Int.mul_nonneg (show 0 ≤ n by omega) (Int.le_of_lt hp)
      omega
  · intro h
    exact Int.mul_neg_of_neg_of_pos h hp

theorem mul_pow_zero {n : Int} {k : Nat} (h : n * (2 : Int) ^ k = 0) : n = 0 := by
  have hp : (0 : Int) < (2 : Int) ^ k := by rw [← pow_cast]; exact Int.ofNat_lt.mpr (Nat.two_pow_pos _)
  rcases Int.mul_eq_zero.mp h with h | h
  · exact h
  · omega

theorem isH_of_right {r : UInt64} {c : Int} (h : Right r (decide (c * (2 : Int) ^ 1073 < 0)) (c * (2 : Int) ^ 1073).natAbs 1) (hc : c.natAbs < 2 ^ 53) : IsH r c := by
  rw [mul_natAbs, mul_pow_neg] at h
  obtain ⟨⟨m, f, hd⟩, hv⟩ := right_exact (k := c.natAbs) (e := 1073) h (by decide) (by rw [Nat.one_mul]) hc (by decide) (by decide)
  exact ⟨⟨_, m, f, hd⟩, by rw [hv, sgn_dec, pow_cast]⟩

theorem isH_add {x y : UInt64} {a b : Int} (hx : IsH x a) (hy : IsH y b) (h : (a + b).natAbs < 2 ^ 53) : IsH (add x y) (a + b) := by
  obtain ⟨⟨sx, mx, ex, dx⟩, vx⟩ := hx
  obtain ⟨⟨sy, my, ey, dy⟩, vy⟩ := hy
  have hr := add_right dx dy
  rw [vx, vy, ← Int.add_mul] at hr
  by_cases h0 : (a + b) * (2 : Int) ^ 1073 = 0
  · rw [hr.1 h0, mul_pow_zero h0]
    exact zero_isH _
  · exact isH_of_right (hr.2 h0) h

theorem isH_sub {x y : UInt64} {a b : Int} (hx : IsH x a) (hy : IsH y b) (h : (a - b).natAbs < 2 ^ 53) : IsH (sub x y) (a - b) := by
  obtain ⟨⟨sx, mx, ex, dx⟩, vx⟩ := hx
  obtain ⟨⟨sy, my, ey, dy⟩, vy⟩ := hy
  have hr := sub_right dx dy
  rw [vx, vy, ← Int.sub_mul] at hr
  by_cases h0 : (a - b) * (2 : Int) ^ 1073 = 0
  · rw [hr.1 h0, mul_pow_zero h0]
    exact zero_isH _
  · exact isH_of_right (hr.2 h0) h

theorem floorOf_val {x : UInt64} {a : Bool} {m : Nat} {e : Int} (h : decode x = .fin a m e) : floorOf a m e = (val x).fdiv ((2 : Int) ^ 1074) := by
  have hge := decode_ge h
  rw [val_eq h, sgn_mul, pow_cast]
  unfold floorOf
  have hp : ∀ k : Nat, (2 : Int) ^ k ≠ 0 := fun k => by
    rw [← pow_cast]
    exact Int.ne_of_gt (Int.ofNat_lt.mpr (Nat.two_pow_pos _))
  split
  · rename_i he
    have e1 : (e + 1074).toNat = e.toNat + 1074 := by omega
    rw [e1, Int.pow_add, ← Int.mul_assoc, Int.mul_fdiv_cancel _ (hp _)]
  · rename_i he
    have e1 : (1074 : Nat) = (-e).toNat + (e + 1074).toNat := by omega
    have e2 : (2 : Int) ^ 1074 = (2 : Int) ^ (-e).toNat * (2 : Int) ^ (e + 1074).toNat := by rw [← Int.pow_add, ← e1]
    rw [e2, Int.mul_fdiv_mul_of_pos_left]
    rw [← pow_cast]
    exact Int.ofNat_lt.mpr (Nat.two_pow_pos _)

theorem toInt_floor {x : UInt64} {a : Bool} {m : Nat} {e : Int} (h : decode x = .fin a m e) : Flt.toInt floorOf x = (val x).fdiv ((2 : Int) ^ 1074) := by
  rw [Flt.toInt_fin h, floorOf_val h]

theorem truncOf_val {x : UInt64} {a : Bool} {m : Nat} {e : Int} (h : decode x = .fin a m e) {k : Int} (hv : val x = k * (2 : Int) ^ 1074) : truncOf a m e = k := by
  have hp : (2 : Int) ^ 1074 ≠ 0 := by
    rw [← pow_cast]
    exact Int.ne_of_gt (Int.ofNat_lt.mpr (Nat.two_pow_pos _))
  unfold truncOf ceilOf
  split
  · have h2 := floorOf_val (neg_decode h)
    rw [h2, neg_val h, hv, ← Int.neg_mul, Int.mul_fdiv_cancel _ hp]
    omega
  · rw [floorOf_val h, hv, Int.mul_fdiv_cancel _ hp]

theorem toInt_trunc {x : UInt64} {k : Int} (h : IsH x (2 * k)) : Flt.toInt truncOf x = k := by
  obtain ⟨⟨a, m, e, hd⟩, hv⟩ := h
  rw [Flt.toInt_fin hd]
  refine truncOf_val hd ?_
  rw [hv, two_1074]
  generalize (2 : Int) ^ 1073 = Z
  rw [Int.mul_comm 2 k, Int.mul_assoc, Int.mul_comm 2 Z]

theorem two_1074N : (2 : Nat) ^ 1074 = 2 ^ 1073 * 2 := Nat.pow_succ 2 1073
theorem ac7 (Z n : Nat) : 2 * 2 * Z * (n * Z) = Z * 2 * (2 * n * Z) := by ac_rfl
theorem isH_mul2 {x : UInt64} {n : Int} (h : IsH x n) (hn : n.natAbs < 2 ^ 52) : IsH (mul (ofInt 2) x) (2 * n) := by
  obtain ⟨⟨a, m, e, hd⟩, hv⟩ := h
  obtain ⟨⟨a2, m2, e2, hd2⟩, hv2⟩ := isH_ofInt (i := 2) (by decide)
  have hr := mul_right hd2 hd
  have hz : n = 0 ∨ a = decide (n < 0) := by
    by_cases h0 : n = 0
    · exact .inl h0
    · right
      have hs := val_eq hd
      rw [hv] at hs
      have hp : (0 : Int) < (2 : Int) ^ 1073 := by rw [← pow_cast]; exact Int.ofNat_lt.mpr (Nat.two_pow_pos _)
      generalize m * 2 ^ (e + 1074).toNat = M at hs
      unfold sgn at hs
      by_cases hneg : n < 0
      · have := Int.mul_neg_of_neg_of_pos hneg hp
        cases a
        · simp only [Bool.false_eq_true, if_false] at hs; omega
        · simp [hneg]
      · have := Int.mul_pos (show 0 < n by omega) hp
        cases a
        · simp [hneg]
        · simp only [if_true] at hs; omega
  have ha2 : a2 = false := by
    have hs := val_eq hd2
    rw [hv2] at hs
    have hp : (0 : Int) < (2 : Int) ^ 1073 := by rw [← pow_cast]; exact Int.ofNat_lt.mpr (Nat.two_pow_pos _)
    have := Int.mul_pos (show (0 : Int) < 2 * 2 by decide) hp
    generalize m2 * 2 ^ (e2 + 1074).toNat = M at hs
    unfold sgn at hs
    cases a2
    · rfl
    · simp only [if_true] at hs; omega
  subst ha2
  rw [hv, hv2, mul_natAbs, mul_natAbs] at hr
  have hW : (2 * 2 : Int).natAbs * 2 ^ 1073 * (n.natAbs * 2 ^ 1073) = 2 ^ 1074 * ((2 * n.natAbs) * 2 ^ 1073) := by
    rw [two_1074N, show (2 * 2 : Int).natAbs = 2 * 2 from rfl]
    exact ac7 (2 ^ 1073) n.natAbs
  obtain ⟨⟨m3, f3, hd3⟩, hv3⟩ := right_exact (k := 2 * n.natAbs) (e := 1073) hr (Nat.two_pow_pos _) hW (by omega) (by decide) (by decide)
  refine ⟨⟨_, m3, f3, hd3⟩, ?_⟩
  rw [hv3]
  rcases hz with rfl | rfl
  · rw [Int.natAbs_zero, Nat.mul_zero, Nat.zero_mul, sgn_zero, Int.mul_zero, Int.zero_mul]
  · rw [Bool.false_bne, Nat.mul_comm 2 n.natAbs, Nat.mul_assoc, sgn_dec, Int.natCast_mul, pow_cast]
    generalize (2 : Int) ^ 1073 = Z
    show n * ((2 : Int) * Z) = 2 * n * Z
    rw [← Int.mul_assoc, Int.mul_comm n 2]

theorem ac6 (Z n : Nat) : 1461 * Z * (2 * n * (Z * 2)) = Z * (2 * 2) * (1461 * n * Z) := by ac_rfl
/-- 365.25 times an int: its floor -/
theorem floor_365 {k : Int} (h : k.natAbs < 2 ^ 40) : (∃ a m e, decode (mul 0x4076d40000000000 (ofInt k)) = .fin a m e) ∧ Flt.toInt floorOf (mul 0x4076d40000000000 (ofInt k)) = Int.fdiv (1461 * k) 4 := by
  have hd : decode 0x4076d40000000000 = .fin false (1461 * 2 ^ 42) (-44) := by kernel_rfl
  have hv : val 0x4076d40000000000 = 1461 * (2 : Int) ^ 1072 := by decide +kernel
  obtain ⟨⟨a2, m2, e2, hd2⟩, hv2⟩ := isH_ofInt (i := k) (by omega)
  have hr := mul_right hd hd2
  have ha : k = 0 ∨ a2 = decide (k < 0) := by
    by_cases h0 : k = 0
    · exact .inl h0
    · right
      have hs := val_eq hd2
      rw [hv2] at hs
      have hp : (0 : Int) < (2 : Int) ^ 1073 := by rw [← pow_cast]; exact Int.ofNat_lt.mpr (Nat.two_pow_pos _)
      generalize m2 * 2 ^ (e2 + 1074).toNat = M at hs
      unfold sgn at hs
      by_cases hneg : k < 0
      · have := Int.mul_neg_of_neg_of_pos (show 2 * k < 0 by omega) hp
        cases a2
        · simp only [Bool.false_eq_true, if_false] at hs; omega
        · simp [hneg]
      · have := Int.mul_pos (show 0 < 2 * k by omega) hp
        cases a2
        · simp [hneg]
        · simp only [if_true] at hs; omega
  rw [hv, hv2, mul_natAbs, mul_natAbs] at hr
  have hW : (1461 : Int).natAbs * 2 ^ 1072 * ((2 * k).natAbs * 2 ^ 1073) = 2 ^ 1074 * ((1461 * k.natAbs) * 2 ^ 1072) := by
    have e1 : (2 * k).natAbs = 2 * k.natAbs := by omega
    rw [e1, show (1074 : Nat) = 1072 + 2 from rfl, show (1073 : Nat) = 1072 + 1 from rfl, Nat.pow_add, Nat.pow_add, show (1461 : Int).natAbs = 1461 from rfl, show 2 ^ 2 = 2 * 2 from rfl, show 2 ^ 1 = 2 from rfl]
    exact ac6 _ _
  obtain ⟨⟨m3, f3, hd3⟩, hv3⟩ := right_exact (k := 1461 * k.natAbs) (e := 1072) hr (Nat.two_pow_pos _) hW (by omega) (by decide) (by decide)
  refine ⟨⟨_, m3, f3, hd3⟩, ?_⟩
  rw [toInt_floor hd3, hv3]
  have hval : sgn (false != a2) (1461 * k.natAbs * 2 ^ 1072) = 1461 * k * (2 : Int) ^ 1072 := by
    rcases ha with rfl | rfl
    · rw [Int.natAbs_zero, Nat.mul_zero, Nat.zero_mul, sgn_zero, Int.mul_zero, Int.zero_mul]
    · rw [Bool.false_bne, Nat.mul_comm 1461 k.natAbs, Nat.mul_assoc, sgn_dec, Int.natCast_mul, pow_cast]
      generalize (2 : Int) ^ 1072 = Z
      show k * ((1461 : Int) * Z) = 1461 * k * Z
      rw [← Int.mul_assoc, Int.mul_comm k 1461]
  rw [hval, show (1074 : Nat) = 2 + 1072 from rfl, Int.pow_add, Int.mul_fdiv_mul_of_pos_left]
  · rfl
  · rw [← pow_cast]
    exact Int.ofNat_lt.mpr (Nat.two_pow_pos _)


theorem ac1 (a Z c : Nat) : a * Z * c = c * a * Z := by ac_rfl
theorem ac2 (n a Z : Nat) : n * (a * Z) = n * a * Z := (Nat.mul_assoc n a Z).symm
theorem ac4 (b c a Z : Nat) : b * ((c * a + 1) * Z) = (b * c * a + b) * Z := by rw [← Nat.mul_assoc, Nat.mul_add, Nat.mul_one, ← Nat.mul_assoc]
theorem ac5 (b x a Z : Nat) : b * (x * a * Z) = b * x * a * Z := by rw [← Nat.mul_assoc, ← Nat.mul_assoc]
theorem fdiv_unique {x D q : Int} (hD : 0 < D) (h1 : D * q ≤ x) (h2 : x < D * (q + 1)) : x.fdiv D = q := by
  rw [Int.fdiv_eq_ediv_of_nonneg _ (Int.le_of_lt hD)]
  have e := Int.mul_ediv_add_emod x D
  have m1 := Int.emod_nonneg x (Int.ne_of_gt hD)
  have m2 := Int.emod_lt_of_pos x hD
  generalize x / D = p at *
  generalize x % D = r at *
  rcases Int.lt_trichotomy p q with h | h | h
  · have : D * (p + 1) ≤ D * q := Int.mul_le_mul_of_nonneg_left (by omega) (Int.le_of_lt hD)
    rw [Int.mul_add] at this
    omega
  · exact h
  · have : D * (q + 1) ≤ D * p := Int.mul_le_mul_of_nonneg_left (by omega) (Int.le_of_lt hD)
    omega

theorem floor_scaled {v k l c : Nat} (h1 : k * 2 ^ 1062 ≤ v) (h2 : v ≤ l * 2 ^ 1062) (hk : c * 2 ^ 12 ≤ k) (hl : l < (c + 1) * 2 ^ 12) : ((v : Int)).fdiv ((2 : Int) ^ 1074) = c := by
  have hp : (0 : Int) < (2 : Int) ^ 1074 := by rw [← pow_cast]; exact Int.ofNat_lt.mpr (Nat.two_pow_pos _)
  have e : (2 : Nat) ^ 1074 = 2 ^ 12 * 2 ^ 1062 := by rw [← Nat.pow_add]
  refine fdiv_unique hp ?_ ?_
  · rw [← pow_cast, ← Int.natCast_mul]
    refine Int.ofNat_le.mpr (Nat.le_trans ?_ h1)
    rw [e, ac1 (2 ^ 12) (2 ^ 1062) c]
    exact Nat.mul_le_mul_right _ hk
  · rw [← pow_cast, show ((c : Int) + 1) = ((c + 1 : Nat) : Int) from rfl, ← Int.natCast_mul]
    refine Int.ofNat_lt.mpr (Nat.lt_of_le_of_lt h2 ?_)
    rw [e, ac1 (2 ^ 12) (2 ^ 1062) (c + 1)]
    exact Nat.mul_lt_mul_of_pos_right hl (Nat.two_pow_pos _)

theorem floor_scaled_neg {v k l c : Nat} (h1 : k * 2 ^ 1062 ≤ v) (h2 : v ≤ l * 2 ^ 1062) (hk : c * 2 ^ 12 < k) (hl : l ≤ (c + 1) * 2 ^ 12) : (-(v : Int)).fdiv ((2 : Int) ^ 1074) = -((c : Int) + 1) := by
  have hp : (0 : Int) < (2 : Int) ^ 1074 := by rw [← pow_cast]; exact Int.ofNat_lt.mpr (Nat.two_pow_pos _)
  have e : (2 : Nat) ^ 1074 = 2 ^ 12 * 2 ^ 1062 := by rw [← Nat.pow_add]
  refine fdiv_unique hp ?_ ?_
  · rw [← pow_cast, show ((c : Int) + 1) = ((c + 1 : Nat) : Int) from rfl, Int.mul_neg, ← Int.natCast_mul]
    refine Int.neg_le_neg (Int.ofNat_le.mpr (Nat.le_trans h2 ?_))
    rw [e, ac1 (2 ^ 12) (2 ^ 1062) (c + 1)]
    exact Nat.mul_le_mul_right _ hl
  · rw [← pow_cast, show (-((c : Int) + 1) + 1) = -(c : Int) by omega, Int.mul_neg, ← Int.natCast_mul]
    refine Int.neg_lt_neg (Int.ofNat_lt.mpr (Nat.lt_of_lt_of_le ?_ h1))
    rw [e, ac1 (2 ^ 12) (2 ^ 1062) c]
    exact Nat.mul_lt_mul_of_pos_right hk (Nat.two_pow_pos _)

/-- the floor of a quotient of ints -/
theorem floor_quot {a b : Int} (hb : 0 < b) (hb2 : b ≤ 1024) (ha : a.natAbs < 2 ^ 36) :
    (∃ s m e, decode (ofFrac (decide (a < 0) != decide (b < 0)) a.natAbs b.natAbs) = .fin s m e) ∧ Flt.toInt floorOf (ofFrac (decide (a < 0) != decide (b < 0)) a.natAbs b.natAbs) = Int.fdiv a b := by
  have hb0 : decide (b < 0) = false := by simp; omega
  rw [hb0, Bool.bne_false]
  have hr : Right (ofFrac (decide (a < 0)) a.natAbs b.natAbs) (decide (a < 0)) (a.natAbs * 2 ^ 1074) b.natAbs := ofFrac_right (by omega) rfl (by omega)
  have e : (2 : Nat) ^ 1074 = 2 ^ 12 * 2 ^ 1062 := by rw [← Nat.pow_add]
  have hd : 0 < b.natAbs := by omega
  have hd2 : b.natAbs ≤ 1024 := by omega
  have hbd : b = (b.natAbs : Int) := by omega
  have hq := Nat.div_add_mod a.natAbs b.natAbs
  have hm := Nat.mod_lt a.natAbs hd
  have hqs : a.natAbs / b.natAbs ≤ a.natAbs := Nat.div_le_self _ _
  generalize hQ : a.natAbs / b.natAbs = q at *
  generalize hM : a.natAbs % b.natAbs = r at *
  by_cases hneg : a < 0
  · have hdec : decide (a < 0) = true := by simp [hneg]
    rw [hdec] at hr ⊢
    -- c + 1 = the ceiling
    have fin : ∀ c : Nat, b.natAbs * c < a.natAbs → a.natAbs ≤ b.natAbs * (c + 1) → c ≤ a.natAbs →
        (∃ s m e, decode (ofFrac true a.natAbs b.natAbs) = .fin s m e) ∧ Flt.toInt floorOf (ofFrac true a.natAbs b.natAbs) = Int.fdiv a b := by
      intro c h1 h2 hc
      obtain ⟨v, ⟨m, f, hdc⟩, hv, hlo, hhi⟩ := right_between (k := c * 2 ^ 12 + 1) (l := (c + 1) * 2 ^ 12) (e := 1062) hr hd (by omega) (by omega) (by decide) (by decide)
        (by
          rw [e, ac4 b.natAbs c (2 ^ 12) (2 ^ 1062), ac2 a.natAbs (2 ^ 12) (2 ^ 1062)]
          refine Nat.mul_le_mul_right _ ?_
          omega)
        (by
          rw [e, ac5 b.natAbs (c + 1) (2 ^ 12) (2 ^ 1062), ac2 a.natAbs (2 ^ 12) (2 ^ 1062)]
          exact Nat.mul_le_mul_right _ (Nat.mul_le_mul_right _ h2))
      refine ⟨⟨_, m, f, hdc⟩, ?_⟩
      rw [toInt_floor hdc, hv]
      have hs : sgn true v = -(v : Int) := rfl
      have g1 : c * 2 ^ 12 < c * 2 ^ 12 + 1 := Nat.lt_succ_self _
      rw [hs, floor_scaled_neg (c := c) hlo hhi g1 (Nat.le_refl _)]
      symm
      have han : a = -(a.natAbs : Int) := by omega
      refine fdiv_unique (by omega) ?_ ?_
      · rw [hbd, Int.mul_neg]
        have : ((a.natAbs : Int)) ≤ ((b.natAbs * (c + 1) : Nat) : Int) := Int.ofNat_le.mpr h2
        rw [Int.natCast_mul] at this
        have e3 : (((c + 1 : Nat)) : Int) = (c : Int) + 1 := rfl
        rw [e3] at this
        omega
      · rw [hbd, show (-((c : Int) + 1) + 1) = -(c : Int) by omega, Int.mul_neg]
        have : ((b.natAbs * c : Nat) : Int) < (a.natAbs : Int) := Int.ofNat_lt.mpr h1
        rw [Int.natCast_mul] at this
        omega
    by_cases hr0 : r = 0
    · subst hr0
      have hq1 : 1 ≤ q := by
        rcases Nat.lt_or_ge q 1 with h | h
        · have : q = 0 := by omega
          subst this
          omega
        · exact h
      have e4 : b.natAbs * (q - 1 + 1) = b.natAbs * q := by rw [Nat.sub_add_cancel hq1]
      have e5 : b.natAbs * (q - 1 + 1) = b.natAbs * (q - 1) + b.natAbs := by rw [Nat.mul_add, Nat.mul_one]
      exact fin (q - 1) (by omega) (by omega) (by omega)
    · have e5 : b.natAbs * (q + 1) = b.natAbs * q + b.natAbs := by rw [Nat.mul_add, Nat.mul_one]
      exact fin q (by omega) (by omega) (by omega)
  · have hdec : decide (a < 0) = false := by simp [hneg]
    rw [hdec] at hr ⊢
    have e5 : b.natAbs * (q + 1) = b.natAbs * q + b.natAbs := by rw [Nat.mul_add, Nat.mul_one]
    obtain ⟨v, ⟨m, f, hdc⟩, hv, hlo, hhi⟩ := right_between (k := q * 2 ^ 12) (l := (q + 1) * 2 ^ 12 - 1) (e := 1062) hr hd (by omega) (by omega) (by decide) (by decide)
        (by
          rw [e, ac5 b.natAbs q (2 ^ 12) (2 ^ 1062), ac2 a.natAbs (2 ^ 12) (2 ^ 1062)]
          exact Nat.mul_le_mul_right _ (Nat.mul_le_mul_right _ (by omega)))
        (by
          rw [e, show b.natAbs * (((q + 1) * 2 ^ 12 - 1) * 2 ^ 1062) = (b.natAbs * (q + 1) * 2 ^ 12 - b.natAbs) * 2 ^ 1062 by rw [← Nat.mul_assoc, Nat.mul_sub, Nat.mul_one, ← Nat.mul_assoc], ac2 a.natAbs (2 ^ 12) (2 ^ 1062)]
          refine Nat.mul_le_mul_right _ ?_
          omega)
    refine ⟨⟨_, m, f, hdc⟩, ?_⟩
    rw [toInt_floor hdc, hv]
    have hs : sgn false v = (v : Int) := rfl
    have g2 : (q + 1) * 2 ^ 12 - 1 < (q + 1) * 2 ^ 12 := Nat.sub_lt (Nat.mul_pos (Nat.succ_pos _) (by decide)) (by decide)
    rw [hs, floor_scaled (c := q) hlo hhi (Nat.le_refl _) g2]
    symm
    have han : a = (a.natAbs : Int) := by omega
    refine fdiv_unique (by omega) ?_ ?_
    · rw [hbd, ← Int.natCast_mul]
      have : b.natAbs * q ≤ a.natAbs := by omega
      have := Int.ofNat_le.mpr this
      omega
    · rw [hbd, show ((q : Int) + 1) = ((q + 1 : Nat) : Int) from rfl, ← Int.natCast_mul]
      have : a.natAbs < b.natAbs * (q + 1) := by omega
      have := Int.ofNat_lt.mpr this
      omega


theorem finite_dec {x : UInt64} (h : isFinite x = true) : ∃ a m e, decode x = .fin a m e := by
  unfold isFinite at h
  split at h
  · rename_i a m e hd
    exact ⟨a, m, e, hd⟩
  · cases h

theorem floor_quot_e {a b : Int} (hb : 0 < b) (hb2 : b ≤ 1024) (ha : a.natAbs < 2 ^ 36) :
    (∃ s m e, decode (ofFrac (decide (a < 0) != decide (b < 0)) a.natAbs b.natAbs) = .fin s m e) ∧ Flt.toInt floorOf (ofFrac (decide (a < 0) != decide (b < 0)) a.natAbs b.natAbs) = a / b := by
  rw [← Int.fdiv_eq_ediv_of_nonneg _ (Int.le_of_lt hb)]
  exact floor_quot hb hb2 ha

theorem floor_month {m j : Int} (h1 : 1 ≤ m) (h2 : m ≤ 12) (j1 : -2 ≤ j) (j2 : j ≤ 0) :
    (∃ a k e, decode (add (add (ofFrac (decide (367 * m - 362 < 0) != decide ((12 : Int) < 0)) (367 * m - 362).natAbs (12 : Int).natAbs) (ofInt j)) (ofInt 13)) = .fin a k e) ∧
      Flt.toInt floorOf (add (add (ofFrac (decide (367 * m - 362 < 0) != decide ((12 : Int) < 0)) (367 * m - 362).natAbs (12 : Int).natAbs) (ofInt j)) (ofInt 13)) = (367 * m - 362) / 12 + j + 13 := by
  have hm : m = 1 ∨ m = 2 ∨ m = 3 ∨ m = 4 ∨ m = 5 ∨ m = 6 ∨ m = 7 ∨ m = 8 ∨ m = 9 ∨ m = 10 ∨ m = 11 ∨ m = 12 := by omega
  have hj : j = 0 ∨ j = -1 ∨ j = -2 := by omega
  rcases hj with rfl | rfl | rfl <;> rcases hm with rfl | rfl | rfl | rfl | rfl | rfl | rfl | rfl | rfl | rfl | rfl | rfl <;>
    exact ⟨finite_dec (by decide +kernel), by decide +kernel⟩

theorem floor_365_e {k : Int} (h : k.natAbs < 2 ^ 40) : (∃ a m e, decode (mul 0x4076d40000000000 (ofInt k)) = .fin a m e) ∧ Flt.toInt floorOf (mul 0x4076d40000000000 (ofInt k)) = 1461 * k / 4 := by
  rw [← Int.fdiv_eq_ediv_of_nonneg _ (by decide)]
  exact floor_365 h

theorem floor_306 {k : Int} (h1 : 4 ≤ k) (h2 : k ≤ 15) :
    (∃ a m e, decode (mul 0x403e99a027525461 (ofInt k)) = .fin a m e) ∧ Flt.toInt floorOf (mul 0x403e99a027525461 (ofInt k)) = 306001 * k / 10000 := by
  have hk : k = 4 ∨ k = 5 ∨ k = 6 ∨ k = 7 ∨ k = 8 ∨ k = 9 ∨ k = 10 ∨ k = 11 ∨ k = 12 ∨ k = 13 ∨ k = 14 ∨ k = 15 := by omega
  rcases hk with rfl | rfl | rfl | rfl | rfl | rfl | rfl | rfl | rfl | rfl | rfl | rfl <;>
    exact ⟨finite_dec (by decide +kernel), by decide +kernel⟩

theorem isH_epoch : IsH 0x413a445180000000 3442851 := ⟨finite_dec (by decide +kernel), by decide +kernel⟩
theorem isH_1524 : IsH 0x4097d20000000000 3049 := ⟨finite_dec (by decide +kernel), by decide +kernel⟩
theorem isH_cast {x : UInt64} {a b : Int} (h : IsH x a) (e : a = b) : IsH x b := e ▸ h

theorem small_fits {n : Int} (h : n.natAbs < 2 ^ 52) : ¬ 2 ^ 1024 - 2 ^ 970 ≤ n.natAbs := by
  have : 2 ^ 52 ≤ 2 ^ 1024 - 2 ^ 970 := by decide +kernel
  exact Nat.not_le.mpr (Nat.lt_of_lt_of_le h this)

section
variable {prog : Program} {w : World} {A : Around} {E : Value → Shared → Prop} {s : Shared} {Q : Value → Shared → Prop} {x : UInt64} {n a : Int} {t u : Tok}
theorem not_nan {x : UInt64} (hd : ∃ a m e, decode x = .fin a m e) : ¬ Float64.isNaN x = true := by
  obtain ⟨a, m, e, h⟩ := hd
  unfold Float64.isNaN
  rw [h]
  exact Bool.false_ne_true
theorem not_inf {x : UInt64} (hd : ∃ a m e, decode x = .fin a m e) : ¬ Float64.isInf x = true := by
  obtain ⟨a, m, e, h⟩ := hd
  unfold Float64.isInf
  rw [h]
  exact Bool.false_ne_true
theorem floor_rule (hA : A.handled = none) (hf : (∃ a m e, decode x = .fin a m e) ∧ Flt.toInt floorOf x = n) (h : Q (.int n s.toks) { s with toks := s.toks + 1 }) :
    wpAny (model prog w) A (call (.builtin "math.floor") [.float x t]) Q E s :=
  Flt.call_floor_float hA (fun c => absurd c (not_nan hf.1)) (fun c => absurd c (not_inf hf.1)) (fun _ => by rw [hf.2]; exact h)
theorem trunc_rule (hA : A.handled = none) (hx : IsH x a) (h2 : a % 2 = 0) (h : Q (.int (a / 2) s.toks) { s with toks := s.toks + 1 }) :
    wpAny (model prog w) A (call (.type "int") [.float x t]) Q E s :=
  Flt.call_int_float3 hA (fun c => absurd c (not_nan hx.1)) (fun c => absurd c (not_inf hx.1)) (fun _ => by
    rw [toInt_trunc (k := a / 2) (isH_cast hx (by omega))]
    exact h)
theorem add_rule (hA : A.handled = none) (hx : IsH x a) (hn : n.natAbs < 2 ^ 52) (hs : (a + 2 * n).natAbs < 2 ^ 53)
    (h : ∀ z, IsH z (a + 2 * n) → Q (.float z s.toks) { s with toks := s.toks + 1 }) : wpAny (model prog w) A (binaryOp .Add (.float x t) (.int n u)) Q E s :=
  add_fi_sharp hA (fun c => absurd c (small_fits hn)) (fun _ => h _ (isH_add hx (isH_ofInt (by omega)) hs))
theorem sub_rule (hA : A.handled = none) (hx : IsH x a) (hn : n.natAbs < 2 ^ 52) (hs : (a - 2 * n).natAbs < 2 ^ 53)
    (h : ∀ z, IsH z (a - 2 * n) → Q (.float z s.toks) { s with toks := s.toks + 1 }) : wpAny (model prog w) A (binaryOp .Sub (.float x t) (.int n u)) Q E s :=
  sub_fi_sharp hA (fun c => absurd c (small_fits hn)) (fun _ => h _ (isH_sub hx (isH_ofInt (by omega)) hs))
theorem sub_if_rule (hA : A.handled = none) (hx : IsH x a) (hn : n.natAbs < 2 ^ 52) (hs : (2 * n - a).natAbs < 2 ^ 53)
    (h : ∀ z, IsH z (2 * n - a) → Q (.float z s.toks) { s with toks := s.toks + 1 }) : wpAny (model prog w) A (binaryOp .Sub (.int n u) (.float x t)) Q E s :=
  sub_if_sharp hA (fun c => absurd c (small_fits hn)) (fun _ => h _ (isH_sub (isH_ofInt (by omega)) hx hs))
theorem twice_rule (hA : A.handled = none) (hx : IsH x a) (hs : a.natAbs < 2 ^ 52)
    (h : ∀ z, IsH z (2 * a) → Q (.float z s.toks) { s with toks := s.toks + 1 }) : wpAny (model prog w) A (binaryOp .Mult (.int 2 u) (.float x t)) Q E s :=
  mul_if_sharp hA (fun c => absurd c (small_fits (by decide))) (fun _ => h _ (isH_mul2 hx hs))
end
end

section
set_option maxRecDepth 100000 in
set_option maxHeartbeats 8000000 in
open_top hd for PySem.Challenge.rw_ad5016_01
end

section
theorem in_top {prog : Program} {w : World} {A : Around} {E : Value → Shared → Prop} {s : Shared} {K : Frag} {h₀ : Heap} {L : Addr} {mm : Str → Option Value} {a n : Nat} {l : List Value} {dd : Option Addr} {sl : Array (Option Value)} {k : Int} {u : Tok} {Q : Value → Shared → Prop}
    (F : Fr h₀ L s.heap mm) (X₀ : K.In h₀) (hl : K.lookup a = some ⟨.type "tuple", dd, .seq l.toArray n, sl⟩) (hi : IntsAre l [4, 6, 9, 11])
    (h : Q (.bool (decide (k = 4 ∨ k = 6 ∨ k = 9 ∨ k = 11))) s) : wpAny (model prog w) A (compareOp .In (.int k u) (.ref a)) Q E s := by
  refine in_tuple_ints (tupK (X₀.keeps F.keep) hl) hi ?_
  have e : ([4, 6, 9, 11] : List Int).any (· == k) = decide (k = 4 ∨ k = 6 ∨ k = 9 ∨ k = 11) := by
    simp only [List.any_cons, List.any_nil, Bool.or_false]
    by_cases h1 : k = 4 <;> by_cases h2 : k = 6 <;> by_cases h3 : k = 9 <;> by_cases h4 : k = 11 <;> simp_all <;> omega
  rw [e]
  exact h

abbrev ClAny (prog : Program) (w : World) (K : Frag) (p : Program) (loose : List Str) (mean : ExcName → Option Value) (mg mb : Str → Option Value) (f : Addr) (r : Nat) (pre : Prop) (vs : List Value) (Rel : Value → Prop) : Prop :=
  ∀ (news : List (Addr × Obj)) (dp un : Nat) (gd : Option (List Code)) (cn : Str) (cs : Scope) (a : Addr) (ccd : Value) (cl : List (Str × Addr)) (outer : List Env) (A₀ : Around) (base h₀ : Heap) (L : Addr) (mm : Str → Option Value) (s : Shared) (Q E : Value → Shared → Prop),
    pre → Below A₀ base outer h₀ → Fr h₀ L s.heap mm → K.In h₀ → News h₀ L s.heap news → Top p loose mean mg mb h₀ → cs.kind = .function → dp + r < recursionLimit → un + 10 * r < cLine →
    (∀ (v : Value) (h' : Heap) (tk' : Nat), Rel v → Fr h₀ L h' mm → News h₀ L h' news → Q v { s with heap := h', toks := tk' }) →
    wpAny (model prog w) (ktrTop dp un gd cn cs L a ccd cl outer) (call (.ref f) vs) Q E s


theorem cl_use {prog : Program} {w : World} {K : Frag} {p : Program} {loose : List Str} {mean : ExcName → Option Value} {mg mb : Str → Option Value} {f : Addr} {r : Nat} {pre : Prop} {vs : List Value} {Rel : Value → Prop}
    {news : List (Addr × Obj)} {dp un : Nat} {gd : Option (List Code)} {cn : Str} {cs : Scope} {a : Addr} {ccd : Value} {cl : List (Str × Addr)} {outer : List Env} {A₀ : Around} {base h₀ : Heap} {L : Addr} {mm : Str → Option Value} {s : Shared} {Q E : Value → Shared → Prop}
    (C : ClAny prog w K p loose mean mg mb f r pre vs Rel) (hpre : pre) (B : Below A₀ base outer h₀) (F : Fr h₀ L s.heap mm) (X : K.In h₀) (N : News h₀ L s.heap news) (T : Top p loose mean mg mb h₀) (hk : cs.kind = .function) (hd : dp + r < recursionLimit) (hu : un + 10 * r < cLine)
    (h : ∀ (v : Value) (h' : Heap) (tk' : Nat), Rel v → Fr h₀ L h' mm → News h₀ L h' news → Q v { s with heap := h', toks := tk' }) :
    wpAny (model prog w) (ktrTop dp un gd cn cs L a ccd cl outer) (call (.ref f) vs) Q E s := C _ _ _ _ _ _ _ _ _ _ _ _ _ _ _ _ _ _ hpre B F X N T hk hd hu h

def adjG (y m : Int) : Int := if m ≤ 2 then 0 else if y % 4 = 0 ∧ (y % 100 ≠ 0 ∨ y % 400 = 0) then -1 else -2
def jG (y m : Int) : Int := 3442849 + 730 * (y - 1) + 2 * ((y - 1) / 4) - 2 * ((y - 1) / 100) + 2 * ((y - 1) / 400) + 2 * ((367 * m - 362) / 12 + adjG y m + 13)
def jJ (y m : Int) : Int := if m ≤ 2 then 2 * (1461 * (y - 1 + 4716) / 4 + 306001 * (m + 12 + 1) / 10000 + 13) - 3049 else 2 * (1461 * (y + 4716) / 4 + 306001 * (m + 1) / 10000 + 13) - 3049

local macro_rules | `(tactic| k_room) => `(tactic| ktr_room)
local macro_rules | `(tactic| k_units) => `(tactic| ktr_units)
local macro_rules | `(tactic| walk_at "compareOp In int ref") => `(tactic| (k_here; k_dflt (refine' in_top ?F ?X ?l ?i ?_; (case F => k_asm); (case X => k_asm); (case l => k_is); (case i => (repeat constructor)); k_whole)))

local macro_rules | `(tactic| walk_at "call builtin:math.floor") => `(tactic| ((with_reducible show wpAny _ _ (call _ [Value.float _ _]) _ _ _); refine floor_rule rfl (by first | exact floor_quot_e (by decide) (by decide) (by omega) | exact floor_month (by omega) (by omega) (by decide) (by decide) | exact floor_365_e (by omega) | exact floor_306 (by omega) (by omega)) ?_))
local macro_rules | `(tactic| walk_at "binaryOp Add float int") => `(tactic| (refine add_rule rfl (by assumption) (by omega) (by omega) ?_; intro z hz))
local macro_rules | `(tactic| walk_at "binaryOp Sub float int") => `(tactic| (refine sub_rule rfl (by first | assumption | exact isH_epoch) (by omega) (by omega) ?_; intro z hz))
local macro_rules | `(tactic| walk_at "binaryOp Sub int float") => `(tactic| (refine sub_if_rule rfl (by first | assumption | exact isH_1524) (by omega) (by omega) ?_; intro z hz))
local macro_rules | `(tactic| walk_at "binaryOp Mult int float") => `(tactic| (refine twice_rule rfl (by assumption) (by omega) ?_; intro z hz))
local macro_rules | `(tactic| walk_at "call type:int") => `(tactic| ((with_reducible show wpAny _ _ (call _ [Value.float _ _]) _ _ _); refine trunc_rule rfl (by assumption) (by omega) ?_))

set_option maxRecDepth 100000 in
set_option maxHeartbeats 3000000 in
theorem cI (w : World) (p : Program) (loose : List Str) (mean : ExcName → Option Value) (mg mb : Str → Option Value) (y : Int) (ty : Tok) :
    ClAny PySem.Challenge.rw_ad5016_01.prog w (hd.heap_39 w.params) p loose mean mg mb 50 1 True [.int y ty] (fun v => v = .bool (decide (y % 4 = 0 ∧ (y % 100 ≠ 0 ∨ y % 400 = 0)))) := by
  k_with_none
  k_fill
  intro news dp un gd cn cs a ccd cl outer A₀ base h₀ L mm s Q E hpre B F X N T hk hd hu hret
  have e4 := Int.fmod_eq_emod_of_nonneg y (show (0 : Int) ≤ 4 by decide)
  have e100 := Int.fmod_eq_emod_of_nonneg y (show (0 : Int) ≤ 100 by decide)
  have e400 := Int.fmod_eq_emod_of_nonneg y (show (0 : Int) ≤ 400 by decide)
  refine wpAny_call ?_
  k_dflt cell_enter
  k_steps
  all_goals (refine hret _ _ _ ?_ (by assumption) (by assumption); simp only [e4, e100, e400] at *; refine congrArg Value.bool ?_; simp_all <;> rfl)
local macro_rules | `(tactic| walk_at "call ref") => `(tactic| (k_here; k_dflt (refine' cl_use (cI _ _ _ _ _ _ _ _) ?kp ?k1 ?k2 ?k3 ?k4 ?k5 ?kK ?kd ?ku ?_; (case k1 => k_asm); (case k2 => k_asm); (case k3 => k_asm); (case k4 => k_asm); (case k5 => k_asm); (case kK => first | exact rfl | assumption); (case kp => first | trivial | (refine ⟨?_, ?_⟩ <;> omega)); (case kd => ktr_room); (case ku => ktr_units); intro v9 h9 tk9 r9 F9 N9; subst r9; (try dsimp only); (try k_fold))))
set_option maxRecDepth 100000 in
set_option maxHeartbeats 3000000 in
theorem cL (w : World) (p : Program) (loose : List Str) (mean : ExcName → Option Value) (mg mb : Str → Option Value) (y m : Int) (ty tm td : Tok) :
    ClAny PySem.Challenge.rw_ad5016_01.prog w (hd.heap_39 w.params) p loose mean mg mb 57 3 (1 ≤ m ∧ m ≤ 12) [.int y ty, .int m tm, .int 13 td] (fun v => v = .bool true) := by
  k_with_none
  k_fill
  intro news dp un gd cn cs a ccd cl outer A₀ base h₀ L mm s Q E hpre B F X N T hk hd hu hret
  obtain ⟨hm1, hm2⟩ := hpre
  refine wpAny_call ?_
  k_dflt cell_enter
  k_steps
  all_goals exact hret _ _ _ rfl (by assumption) (by assumption)

set_option maxRecDepth 100000 in
set_option maxHeartbeats 3000000 in
theorem cLj (w : World) (p : Program) (loose : List Str) (mean : ExcName → Option Value) (mg mb : Str → Option Value) (y m : Int) (ty tm td : Tok) :
    ClAny PySem.Challenge.rw_ad5016_01.prog w (hd.heap_39 w.params) p loose mean mg mb 86 4 (1 ≤ m ∧ m ≤ 12) [.int y ty, .int m tm, .int 13 td] (fun v => v = .bool true) := by
  k_with_none
  k_fill
  intro news dp un gd cn cs a ccd cl outer A₀ base h₀ L mm s Q E hpre B F X N T hk hd hu hret
  obtain ⟨hm1, hm2⟩ := hpre
  refine wpAny_call ?_
  k_dflt cell_enter
  k_steps
  all_goals exact hret _ _ _ rfl (by assumption) (by assumption)

local macro_rules | `(tactic| walk_at "call ref") => `(tactic| (k_here; k_dflt (refine' cl_use (cL _ _ _ _ _ _ _ _ _ _ _) ?kp ?k1 ?k2 ?k3 ?k4 ?k5 ?kK ?kd ?ku ?_; (case k1 => k_asm); (case k2 => k_asm); (case k3 => k_asm); (case k4 => k_asm); (case k5 => k_asm); (case kK => first | exact rfl | assumption); (case kp => first | trivial | (refine ⟨?_, ?_⟩ <;> omega)); (case kd => ktr_room); (case ku => ktr_units); intro v9 h9 tk9 r9 F9 N9; subst r9; (try dsimp only); (try k_fold))))
local macro_rules | `(tactic| walk_at "call ref") => `(tactic| (k_here; k_dflt (refine' cl_use (cLj _ _ _ _ _ _ _ _ _ _ _) ?kp ?k1 ?k2 ?k3 ?k4 ?k5 ?kK ?kd ?ku ?_; (case k1 => k_asm); (case k2 => k_asm); (case k3 => k_asm); (case k4 => k_asm); (case k5 => k_asm); (case kK => first | exact rfl | assumption); (case kp => first | trivial | (refine ⟨?_, ?_⟩ <;> omega)); (case kd => ktr_room); (case ku => ktr_units); intro v9 h9 tk9 r9 F9 N9; subst r9; (try dsimp only); (try k_fold))))
set_option maxRecDepth 100000 in
set_option maxHeartbeats 3000000 in
theorem cG (w : World) (p : Program) (loose : List Str) (mean : ExcName → Option Value) (mg mb : Str → Option Value) (y m : Int) (ty tm td : Tok) :
    ClAny PySem.Challenge.rw_ad5016_01.prog w (hd.heap_39 w.params) p loose mean mg mb 64 6 (1 ≤ m ∧ m ≤ 12 ∧ -10000000 ≤ y ∧ y ≤ 10000000000) [.int y ty, .int m tm, .int 13 td] (fun v => ∃ x t, v = .float x t ∧ IsH x (jG y m)) := by
  k_with_none
  k_fill
  intro news dp un gd cn cs a ccd cl outer A₀ base h₀ L mm s Q E hpre B F X N T hk hd hu hret
  obtain ⟨hm1, hm2, hy1, hy2⟩ := hpre
  refine wpAny_call ?_
  k_dflt cell_enter
  k_steps
  all_goals (refine hret _ _ _ ⟨_, _, rfl, isH_cast (by assumption) ?_⟩ (by assumption) (by assumption); unfold jG; (try unfold adjG); (repeat' split) <;> omega)

set_option maxRecDepth 100000 in
set_option maxHeartbeats 3000000 in
theorem cJ (w : World) (p : Program) (loose : List Str) (mean : ExcName → Option Value) (mg mb : Str → Option Value) (y m : Int) (ty tm td : Tok) :
    ClAny PySem.Challenge.rw_ad5016_01.prog w (hd.heap_39 w.params) p loose mean mg mb 93 6 (1 ≤ m ∧ m ≤ 12 ∧ -10000000 ≤ y ∧ y ≤ 10000000000) [.int y ty, .int m tm, .int 13 td] (fun v => ∃ x t, v = .float x t ∧ IsH x (jJ y m)) := by
  k_with_none
  k_fill
  intro news dp un gd cn cs a ccd cl outer A₀ base h₀ L mm s Q E hpre B F X N T hk hd hu hret
  obtain ⟨hm1, hm2, hy1, hy2⟩ := hpre
  refine wpAny_call ?_
  k_dflt cell_enter
  k_steps
  all_goals (refine hret _ _ _ ⟨_, _, rfl, isH_cast (by assumption) ?_⟩ (by assumption) (by assumption); unfold jJ; (try unfold adjG); (repeat' split) <;> omega)

set_option maxRecDepth 100000 in
set_option maxHeartbeats 3000000 in
theorem cD (w : World) (p : Program) (loose : List Str) (mean : ExcName → Option Value) (mg mb : Str → Option Value) (x : UInt64) (n : Int) (t : Tok) :
    ClAny PySem.Challenge.rw_ad5016_01.prog w (hd.heap_39 w.params) p loose mean mg mb 114 3 (IsH x n ∧ n % 2 = 1 ∧ n.natAbs < 2 ^ 50) [.float x t] (fun v => ∃ t, v = .int ((n + 1) / 2) t) := by
  k_with_none
  k_fill
  intro news dp un gd cn cs a ccd cl outer A₀ base h₀ L mm s Q E hpre B F X N T hk hd hu hret
  obtain ⟨hx, hn1, hn2⟩ := hpre
  refine wpAny_call ?_
  k_dflt cell_enter
  k_steps
  all_goals (refine hret _ _ _ ⟨_, congrArg (fun z => Value.int z _) ?_⟩ (by assumption) (by assumption); rw [Int.fdiv_eq_ediv_of_nonneg _ (by decide)]; omega)
end

section
local macro_rules | `(tactic| k_room) => `(tactic| ktr_room)
local macro_rules | `(tactic| k_units) => `(tactic| ktr_units)
local macro_rules | `(tactic| walk_at "call ref") => `(tactic| (k_here; k_dflt (refine' cl_use (cG _ _ _ _ _ _ _ _ _ _ _) ?kp ?k1 ?k2 ?k3 ?k4 ?k5 ?kK ?kd ?ku ?_; (case k1 => k_asm); (case k2 => k_asm); (case k3 => k_asm); (case k4 => k_asm); (case k5 => k_asm); (case kK => first | exact rfl | assumption); (case kp => first | trivial | (refine ⟨?_, ?_, ?_, ?_⟩ <;> omega)); (case kd => ktr_room); (case ku => ktr_units); intro v9 h9 tk9 r9 F9 N9; obtain ⟨x9, t9, e9, hx9⟩ := r9; subst e9; (try dsimp only); (try k_fold))))
local macro_rules | `(tactic| walk_at "call ref") => `(tactic| (k_here; k_dflt (refine' cl_use (cJ _ _ _ _ _ _ _ _ _ _ _) ?kp ?k1 ?k2 ?k3 ?k4 ?k5 ?kK ?kd ?ku ?_; (case k1 => k_asm); (case k2 => k_asm); (case k3 => k_asm); (case k4 => k_asm); (case k5 => k_asm); (case kK => first | exact rfl | assumption); (case kp => first | trivial | (refine ⟨?_, ?_, ?_, ?_⟩ <;> omega)); (case kd => ktr_room); (case ku => ktr_units); intro v9 h9 tk9 r9 F9 N9; obtain ⟨x9, t9, e9, hx9⟩ := r9; subst e9; (try dsimp only); (try k_fold))))
@[irreducible] def gday (y m : Int) : Int := (jG y m + 1) / 2
@[irreducible] def jday (y m : Int) : Int := (jJ y m + 1) / 2
theorem jG_fits {y m : Int} (h : 1 ≤ m ∧ m ≤ 12 ∧ -10000000 ≤ y ∧ y ≤ 10000000000) : jG y m % 2 = 1 ∧ (jG y m).natAbs < 2 ^ 50 := by
  obtain ⟨h1, h2, h3, h4⟩ := h
  have ha : -2 ≤ adjG y m ∧ adjG y m ≤ 0 := by unfold adjG; (repeat' split) <;> omega
  unfold jG
  omega
theorem jJ_fits {y m : Int} (h : 1 ≤ m ∧ m ≤ 12 ∧ -10000000 ≤ y ∧ y ≤ 10000000000) : jJ y m % 2 = 1 ∧ (jJ y m).natAbs < 2 ^ 50 := by
  obtain ⟨h1, h2, h3, h4⟩ := h
  unfold jJ
  split <;> omega
theorem cDG (w : World) (p : Program) (loose : List Str) (mean : ExcName → Option Value) (mg mb : Str → Option Value) (x : UInt64) (y m : Int) (t : Tok) :
    ClAny PySem.Challenge.rw_ad5016_01.prog w (hd.heap_39 w.params) p loose mean mg mb 114 3 (IsH x (jG y m) ∧ 1 ≤ m ∧ m ≤ 12 ∧ -10000000 ≤ y ∧ y ≤ 10000000000) [.float x t] (fun v => ∃ t, v = .int (gday y m) t) := by
  unfold gday
  exact fun a1 a2 a3 a4 a5 a6 a7 a8 a9 a10 a11 a12 a13 a14 a15 a16 a17 a18 hp => cD w p loose mean mg mb x (jG y m) t a1 a2 a3 a4 a5 a6 a7 a8 a9 a10 a11 a12 a13 a14 a15 a16 a17 a18 ⟨hp.1, jG_fits hp.2⟩
theorem cDJ (w : World) (p : Program) (loose : List Str) (mean : ExcName → Option Value) (mg mb : Str → Option Value) (x : UInt64) (y m : Int) (t : Tok) :
    ClAny PySem.Challenge.rw_ad5016_01.prog w (hd.heap_39 w.params) p loose mean mg mb 114 3 (IsH x (jJ y m) ∧ 1 ≤ m ∧ m ≤ 12 ∧ -10000000 ≤ y ∧ y ≤ 10000000000) [.float x t] (fun v => ∃ t, v = .int (jday y m) t) := by
  unfold jday
  exact fun a1 a2 a3 a4 a5 a6 a7 a8 a9 a10 a11 a12 a13 a14 a15 a16 a17 a18 hp => cD w p loose mean mg mb x (jJ y m) t a1 a2 a3 a4 a5 a6 a7 a8 a9 a10 a11 a12 a13 a14 a15 a16 a17 a18 ⟨hp.1, jJ_fits hp.2⟩

@[irreducible] def nearZ (n : Int) : Int := if -1000000 < n ∧ n < 1000000 then n else n % 1000000000
theorem near_fact {o : Obj} {n : Int} {t : Tok} (_ : o.data = .cell (some (.int (2025 + nearZ n) t))) : -1000000 ≤ nearZ n ∧ nearZ n < 1000000000 := by
  unfold nearZ
  split <;> omega
set_option maxRecDepth 100000 in
set_option maxHeartbeats 3000000 in
theorem cN (w : World) (p : Program) (loose : List Str) (mean : ExcName → Option Value) (mg mb : Str → Option Value) (n : Int) (tn : Tok) :
    ClAny PySem.Challenge.rw_ad5016_01.prog w (hd.heap_39 w.params) p loose mean mg mb 107 2 True [.int n tn] (fun v => ∃ t, v = .int (nearZ n) t) := by
  k_with_none
  k_fill
  intro news dp un gd cn cs a ccd cl outer A₀ base h₀ L mm s Q E hpre B F X N T hk hd hu hret
  refine wpAny_call ?_
  k_dflt cell_enter
  k_steps
  all_goals (refine hret _ _ _ ⟨_, congrArg (fun z => Value.int z _) ?_⟩ (by assumption) (by assumption); (have e9 : n.fmod (10 ^ Int.toNat 9) = n % 1000000000 := Int.fmod_eq_emod_of_nonneg n (by decide)); (try rw [e9]); unfold nearZ; (try split) <;> first | rfl | omega)
end

section
/-- one turn of _law_counts -/
def cstep (d0 : Int) (f : List Int) (d : Int) : List Int := f.set ((d - d0).fmod 7).toNat (f.getD ((d - d0).fmod 7).toNat 0 + 1)
def counts7 (ds : List Int) : List Int := ds.foldl (cstep (ds.headD 0)) [0, 0, 0, 0, 0, 0, 0]

abbrev ClList (prog : Program) (w : World) (K : Frag) (p : Program) (loose : List Str) (mean : ExcName → Option Value) (mg mb : Str → Option Value) (f : Addr) (r : Nat) (pre : List (Addr × Obj) → Prop) (vs : List Value) (ns : List Int) : Prop :=
  ∀ (news : List (Addr × Obj)) (dp un : Nat) (gd : Option (List Code)) (cn : Str) (cs : Scope) (a : Addr) (ccd : Value) (cl : List (Str × Addr)) (outer : List Env) (A₀ : Around) (base h₀ : Heap) (L : Addr) (mm : Str → Option Value) (s : Shared) (Q E : Value → Shared → Prop),
    pre news → Below A₀ base outer h₀ → Fr h₀ L s.heap mm → K.In h₀ → News h₀ L s.heap news → Top p loose mean mg mb h₀ → cs.kind = .function → dp + r < recursionLimit → un + 10 * r < cLine →
    (∀ (l : Addr) (zs : List Value) (c : Nat) (h' : Heap) (tk' : Nat), IntsAre zs ns → (∀ p ∈ news, p.1 < l) → Fr h₀ L h' mm → News h₀ L h' ((l, W.listOf zs.toArray c) :: news) → Q (.ref l) { s with heap := h', toks := tk' }) →
    wpAny (model prog w) (ktrTop dp un gd cn cs L a ccd cl outer) (call (.ref f) vs) Q E s

theorem cword {d0 : Int} {f z pre : List Int} {n : Int} (h1 : f.length = 7) (h2 : f = pre.foldl (cstep d0) z) :
    (f.set ((n - d0).fmod 7).toNat (f.getD ((n - d0).fmod 7).toNat 0 + 1)).length = 7 ∧ f.set ((n - d0).fmod 7).toNat (f.getD ((n - d0).fmod 7).toNat 0 + 1) = (pre ++ [n]).foldl (cstep d0) z := by
  refine ⟨by rw [List.length_set, h1], ?_⟩
  rw [List.foldl_append, ← h2]
  rfl
theorem allLt_back {d : Addr} : ∀ {l : List (Addr × Obj)}, AllLt d l → ∀ p ∈ l, p.1 < d
  | [], _, _, h => nomatch h
  | _ :: _, h, q, hq => by
    rcases List.mem_cons.mp hq with rfl | hq
    · exact h.1
    · exact allLt_back h.2 q hq
theorem news_drop {h₀ h : Heap} {L : Addr} {x y z : Addr × Obj} {news : List (Addr × Obj)} (N : News h₀ L h (x :: y :: z :: news)) : News h₀ L h (x :: news) := fun p hp => by
  rcases List.mem_cons.mp hp with rfl | hp
  · exact N _ (.head _)
  · exact N _ (.tail _ (.tail _ (.tail _ hp)))
theorem counts_ints {d0 : Int} {ds f : List Int} {vs : List Value} (h : IntsAre vs f) (e : f = (d0 :: ds).foldl (cstep ((d0 :: ds).headD 0)) [0, 0, 0, 0, 0, 0, 0]) : IntsAre vs (counts7 (d0 :: ds)) := by
  subst e
  exact h
def dueL (b : Bool) : List Int := if b then [3, 1, 1, 2, 2, 1, 2] else [2, 1, 1, 3, 1, 2, 2]
local macro_rules | `(tactic| k_room) => `(tactic| ktr_room)
local macro_rules | `(tactic| k_units) => `(tactic| ktr_units)
set_option maxRecDepth 100000 in
set_option maxHeartbeats 1500000 in
theorem cC (w : World) (p : Program) (loose : List Str) (mean : ExcName → Option Value) (mg mb : Str → Option Value) (D : Addr) (ys : List Value) (xs : List Int) :
    ClList PySem.Challenge.rw_ad5016_01.prog w (hd.heap_39 w.params) p loose mean mg mb 121 3 (fun news => (D, LCg.lst ys) ∈ news ∧ IntsAre ys xs ∧ 0 < xs.length ∧ xs.length < 100) [.ref D] (counts7 xs) := by
  k_with_none
  k_fill
  intro news dp un gd cn cs a ccd cl outer A₀ base h₀ L mm s Q E hpre B F X N T hk hd hu hret
  obtain ⟨hm, hi, hx, hl⟩ := hpre
  obtain ⟨d0, ds, rfl⟩ : ∃ d0 ds, xs = d0 :: ds := by
    cases xs with
    | nil => exact absurd hx (by decide)
    | cons d0 ds => exact ⟨d0, ds, rfl⟩
  clear hx
  replace N : News h₀ L s.heap ((D, LCg.lst ys) :: news) := fun p hp => by
    rcases List.mem_cons.mp hp with rfl | hp
    · exact N _ hm
    · exact N _ hp
  clear hm
  k_with "state" => first | exact ⟨rfl, rfl⟩ | exact cword (by assumption) (by assumption)
  k_with "pyIter ref" => k_state_given ["days"] (fun (xs pre found : List Int) => found.length = 7 ∧ found = pre.foldl (cstep (xs.headD 0)) [0, 0, 0, 0, 0, 0, 0]) "found"
  refine wpAny_call ?_
  k_dflt cell_enter
  k_steps
  all_goals (refine hret _ _ _ _ _ (counts_ints (by assumption) (by assumption)) ?_ (by assumption) (news_drop (by assumption)); (rename (_ < _ ∧ _ < _ ∧ AllLt _ _) => hlt); exact allLt_back hlt.2.2)

set_option maxRecDepth 100000 in
set_option maxHeartbeats 1500000 in
theorem cU (w : World) (p : Program) (loose : List Str) (mean : ExcName → Option Value) (mg mb : Str → Option Value) (b : Bool) :
    ClList PySem.Challenge.rw_ad5016_01.prog w (hd.heap_39 w.params) p loose mean mg mb 128 2 (fun _ => True) [.bool b] (dueL b) := by
  k_with_none
  k_fill
  intro news dp un gd cn cs a ccd cl outer A₀ base h₀ L mm s Q E hpre B F X N T hk hd hu hret
  refine wpAny_call ?_
  k_dflt cell_enter
  k_steps
  all_goals (subst_vars; refine hret _ _ _ _ _ ?_ (by assumption) (by assumption) (by assumption); first | ((show IntsAre _ [3, 1, 1, 2, 2, 1, 2]); (repeat constructor)) | ((show IntsAre _ [2, 1, 1, 3, 1, 2, 2]); (repeat constructor)))
end

section
theorem cfold_shift (B o : Int) : ∀ (xs z : List Int), (xs.map (B + ·)).foldl (cstep (B + o)) z = xs.foldl (cstep o) z
  | [], _ => rfl
  | x :: r, z => by
    rw [List.map_cons, List.foldl_cons, List.foldl_cons, cfold_shift B o r]
    have e : B + x - (B + o) = x - o := by omega
    have e2 : cstep (B + o) z (B + x) = cstep o z x := by unfold cstep; rw [e]
    rw [e2]
theorem counts_shift (B o : Int) (xs : List Int) : counts7 ((o :: xs).map (B + ·)) = counts7 (o :: xs) := by
  show ((o :: xs).map (B + ·)).foldl (cstep (B + o)) _ = (o :: xs).foldl (cstep o) _
  exact cfold_shift B o _ _

theorem months : rangeKs 1 (13 - 1 : Int).toNat = [1, 2, 3, 4, 5, 6, 7, 8, 9, 10, 11, 12] := by decide

def offL : Bool → List Int
  | true => [0, 31, 60, 91, 121, 152, 182, 213, 244, 274, 305, 335]
  | false => [0, 31, 59, 90, 120, 151, 181, 212, 243, 273, 304, 334]

theorem gdays_eq (y : Int) (b : Bool) (hb : b = decide (y % 4 = 0 ∧ (y % 100 ≠ 0 ∨ y % 400 = 0))) : (rangeKs 1 (13 - 1 : Int).toNat).map (fun k => gday y k) = (offL b).map (gday y 1 + ·) := by
  rw [months]
  have hg : ∀ m : Int, 1 ≤ m → m ≤ 12 → gday y m = gday y 1 + ((367 * m - 362) / 12 + adjG y m) := by
    intro m h1 h2
    have ha : adjG y 1 = 0 := by unfold adjG; simp
    unfold gday jG
    rw [ha]
    omega
  have h2 : adjG y 2 = 0 := by unfold adjG; simp
  have h1 : adjG y 1 = 0 := by unfold adjG; simp
  have hm : ∀ m : Int, 3 ≤ m → adjG y m = if b then -1 else -2 := by
    intro m h
    unfold adjG
    rw [if_neg (by omega), hb]
    simp
  cases b
  · simp only [List.map_cons, List.map_nil, offL]
    rw [hg 2 (by decide) (by decide), hg 3 (by decide) (by decide), hg 4 (by decide) (by decide), hg 5 (by decide) (by decide), hg 6 (by decide) (by decide), hg 7 (by decide) (by decide), hg 8 (by decide) (by decide), hg 9 (by decide) (by decide), hg 10 (by decide) (by decide), hg 11 (by decide) (by decide), hg 12 (by decide) (by decide)]
    rw [h2, hm 3 (by decide), hm 4 (by decide), hm 5 (by decide), hm 6 (by decide), hm 7 (by decide), hm 8 (by decide), hm 9 (by decide), hm 10 (by decide), hm 11 (by decide), hm 12 (by decide)]
    simp
  · simp only [List.map_cons, List.map_nil, offL]
    rw [hg 2 (by decide) (by decide), hg 3 (by decide) (by decide), hg 4 (by decide) (by decide), hg 5 (by decide) (by decide), hg 6 (by decide) (by decide), hg 7 (by decide) (by decide), hg 8 (by decide) (by decide), hg 9 (by decide) (by decide), hg 10 (by decide) (by decide), hg 11 (by decide) (by decide), hg 12 (by decide) (by decide)]
    rw [h2, hm 3 (by decide), hm 4 (by decide), hm 5 (by decide), hm 6 (by decide), hm 7 (by decide), hm 8 (by decide), hm 9 (by decide), hm 10 (by decide), hm 11 (by decide), hm 12 (by decide)]
    simp

theorem j_step (y : Int) : 1461 * (y + 4716) / 4 = 1461 * (y - 1 + 4716) / 4 + (if y % 4 = 0 then 366 else 365) := by
  have h1 := Int.mul_ediv_add_emod y 4
  generalize y / 4 = q at h1
  have h2 : y % 4 = 0 ∨ y % 4 = 1 ∨ y % 4 = 2 ∨ y % 4 = 3 := by omega
  rcases h2 with h | h | h | h <;> rw [h] at h1 ⊢ <;> subst h1
  · rw [if_pos rfl]; omega
  · rw [if_neg (by decide)]; omega
  · rw [if_neg (by decide)]; omega
  · rw [if_neg (by decide)]; omega
theorem jday_off (y : Int) : ∀ m : Int, 1 ≤ m → m ≤ 12 → jday y m = jday y 1 + (if m ≤ 2 then 306001 * (m + 12 + 1) / 10000 - 428 else (if y % 4 = 0 then 1 else 0) + 365 - 428 + 306001 * (m + 1) / 10000) := by
  intro m h1 h2
  have e : jJ y 1 = 2 * (1461 * (y - 1 + 4716) / 4 + 428 + 13) - 3049 := by unfold jJ; rw [if_pos (by decide)]; rfl
  have hq := j_step y
  unfold jday
  rw [e]
  unfold jJ
  split
  · omega
  · split
    · rw [if_pos (by assumption)] at hq
      omega
    · rw [if_neg (by assumption)] at hq
      omega

theorem jdays_eq (y : Int) (b : Bool) (hb : b = decide (y % 4 = 0)) : (rangeKs 1 (13 - 1 : Int).toNat).map (fun k => jday y k) = (offL b).map (jday y 1 + ·) := by
  rw [months]
  have hg := jday_off y
  have hy : (if y % 4 = 0 then (1 : Int) else 0) = if b then 1 else 0 := by rw [hb]; simp
  rw [hy] at hg
  cases b
  · simp only [List.map_cons, List.map_nil, offL]
    rw [hg 2 (by decide) (by decide), hg 3 (by decide) (by decide), hg 4 (by decide) (by decide), hg 5 (by decide) (by decide), hg 6 (by decide) (by decide), hg 7 (by decide) (by decide), hg 8 (by decide) (by decide), hg 9 (by decide) (by decide), hg 10 (by decide) (by decide), hg 11 (by decide) (by decide), hg 12 (by decide) (by decide)]
    simp
  · simp only [List.map_cons, List.map_nil, offL]
    rw [hg 2 (by decide) (by decide), hg 3 (by decide) (by decide), hg 4 (by decide) (by decide), hg 5 (by decide) (by decide), hg 6 (by decide) (by decide), hg 7 (by decide) (by decide), hg 8 (by decide) (by decide), hg 9 (by decide) (by decide), hg 10 (by decide) (by decide), hg 11 (by decide) (by decide), hg 12 (by decide) (by decide)]
    simp

theorem off_counts (B : Int) (b : Bool) : counts7 ((offL b).map (B + ·)) = dueL b := by
  cases b <;> exact (counts_shift B 0 _).trans (by decide)

theorem g_counts (y : Int) (b : Bool) (hb : b = decide (y % 400 = 0 ∨ (y % 4 = 0 ∧ y % 100 ≠ 0))) : counts7 ((rangeKs 1 (13 - 1 : Int).toNat).map (fun k => gday y k)) = dueL b := by
  have e : b = decide (y % 4 = 0 ∧ (y % 100 ≠ 0 ∨ y % 400 = 0)) := by
    rw [hb]
    refine decide_eq_decide.mpr ?_
    omega
  rw [gdays_eq y b e, off_counts]
theorem j_counts (y : Int) (b : Bool) (hb : b = decide (y % 4 = 0)) : counts7 ((rangeKs 1 (13 - 1 : Int).toNat).map (fun k => jday y k)) = dueL b := by
  rw [jdays_eq y b hb, off_counts]
theorem g_31 (y : Int) : gday (y + 1) 1 - gday y 12 = 31 := by
  unfold gday jG adjG
  simp only [show ((1 : Int) ≤ 2) = True by simp, if_true, show ((12 : Int) ≤ 2) = False by simp, if_false]
  split <;> omega
theorem j_31 (y : Int) : jday (y + 1) 1 - jday y 12 = 31 := by
  rw [jday_off y 12 (by decide) (by decide)]
  have hq := j_step y
  unfold jday jJ
  rw [show y + 1 - 1 + 4716 = y + 4716 by omega]
  simp only [show ((1 : Int) ≤ 2) = True by simp, if_true, show ((12 : Int) ≤ 2) = False by simp, if_false]
  split
  · rw [if_pos (by assumption)] at hq
    omega
  · rw [if_neg (by assumption)] at hq
    omega
theorem g_2025 : gday 2025 1 = 2460689 := by
  unfold gday
  decide
theorem j_2025 : jday 2025 1 = 2460702 := by
  unfold jday
  decide
end

section
/-- the end of a turn of the loop of years -/
def YearEnd (h₀ : Heap) (L D cO cY : Addr) (oY : Obj) (own : List (Addr × Obj)) (ns : List Int) (s₁ : Shared) (f : Flow) (s₂ : Shared) : Prop :=
  f = .next ∧ ∃ (h' : Heap) (tk : Nat) (u : Str → Option Value) (vs : List Value) (c : Nat) (o1 : Obj) (news' : List (Addr × Obj)), s₂ = { s₁ with heap := h', toks := tk } ∧ Fr h₀ L h' u ∧ u (Str.ofString "counts") = some (.ref D) ∧
    News h₀ L h' news' ∧ (D, W.listOf vs.toArray c) ∈ news' ∧ (cO, o1) ∈ news' ∧ (∃ ov, o1.data = .cell ov) ∧ (cY, oY) ∈ news' ∧ (∀ p ∈ own, p ∈ news') ∧ IntsAre vs ns

theorem yearEnd {h₀ : Heap} {L D cO cY : Addr} {oY : Obj} {own : List (Addr × Obj)} {ns : List Int} {s₁ : Shared} {h' : Heap} {tk : Nat} {u : Str → Option Value} {vs : List Value} {c : Nat} {o1 : Obj} {news' : List (Addr × Obj)} {ov : Option Value}
    (F : Fr h₀ L h' u) (hu : u (Str.ofString "counts") = some (.ref D)) (N : News h₀ L h' news') (m1 : (D, W.listOf vs.toArray c) ∈ news') (m2 : (cO, o1) ∈ news') (ho : o1.data = .cell ov) (m3 : (cY, oY) ∈ news') (mo : ∀ p ∈ own, p ∈ news') (hi : IntsAre vs ns) :
    YearEnd h₀ L D cO cY oY own ns s₁ .next { s₁ with heap := h', toks := tk } :=
  ⟨rfl, h', tk, u, vs, c, o1, news', rfl, F, hu, N, m1, m2, ⟨ov, ho⟩, m3, mo, hi⟩

section
variable {prog : Program} {w : World} {A : Around} {E : Value → Shared → Prop} {s : Shared} {env : Env} {h₀ : Heap} {x : Str} {px : Pos} {body : List Stmt} {Q : Flow → Shared → Prop}

theorem iter_years {r : Addr} {a₀ b₀ : Int} {t₀ u₀ v₀ : Tok} {n : Nat} {m₀ : Str → Option Value} {D cO cY : Addr} {oO oY : Obj} {vs0 : List Value} {c0 : Nat} {cs0 : List Int} (g : List Int → Int → List Int)
    (hh : A.handled = none) (hr : IsRange s.heap r a₀ b₀ 1 t₀ u₀ v₀) (hsmall : Builtin.Range.small a₀ b₀ 1 = true) (hn : Builtin.Range.rangeSize a₀ b₀ 1 = (n : Int))
    (F : Fr h₀ env.locals s.heap m₀) (hD : m₀ (Str.ofString "counts") = some (.ref D)) (N : News h₀ env.locals s.heap [(D, W.listOf vs0.toArray c0), (cO, oO), (cY, oY)]) (hO : ∃ ov, oO.data = .cell ov) (hi : IntsAre vs0 cs0)
    (P : List Int → Prop) (hP0 : P cs0) (hPg : ∀ cs k, P cs → P (g cs k))
    (turn : ∀ (k : Int) t (u : Str → Option Value) vs cs c o1 ov h tk own, a₀ ≤ k → k < a₀ + (n : Int) → OwnOff own [D, cO, cY] → o1.data = .cell ov → IntsAre vs cs → vs.length = cs.length → P cs →
      Fr h₀ env.locals h (fun z => if z = Str.ofString "counts" then some (.ref D) else u z) → News h₀ env.locals h ((D, W.listOf vs.toArray c) :: (cO, o1) :: (cY, oY) :: own) →
      wpAny (model prog w) A (assign (.Name x px) env (.int k t)) (fun _ s₃ => wpAny (model prog w) A (execs body env) (YearEnd h₀ env.locals D cO cY oY own (g cs k) { s with heap := h, toks := tk }) E s₃) E { s with heap := h, toks := tk })
    (done : ∀ (u : Str → Option Value) vs c o1 ov h tk, o1.data = .cell ov → IntsAre vs ((rangeKs a₀ n).foldl g cs0) → Fr h₀ env.locals h (fun z => if z = Str.ofString "counts" then some (.ref D) else u z) → News h₀ env.locals h [(D, W.listOf vs.toArray c), (cO, o1), (cY, oY)] → Q .next { s with heap := h, toks := tk }) :
    wpAny (model prog w) A (pyIter (.ref r)) (fun it s₂ => TurnsAt prog w A h₀ env (.Name x px) body Q E it s₂) E s := by
  refine wpAny_pyIter_range hr hsmall ?_
  have hW : Walks prog w A s.heap.objs.size [s.heap.objs.size] [s.heap.objs.size] n (fun i v => i < n ∧ ∃ t, v = .int (a₀ + i * 1) t)
      (fun i h => IsRangeIter h s.heap.objs.size (a₀ + (i : Nat) * 1) ((n : Int) - (i : Nat)) 1) := (Walks.range hh _ a₀ 1 n).bound
  have KT := KTurns.ofWalks (target := .Name x px) hW (fun i v s Q E _ hQ => wpAny_pure hQ)
  have hsame : ∀ (u : Str → Option Value), u (Str.ofString "counts") = some (.ref D) → (fun z => if z = Str.ofString "counts" then some (Value.ref D) else u z) = u := by
    intro u hu
    funext z
    by_cases hz : z = Str.ofString "counts"
    · rw [if_pos hz, hz, hu]
    · rw [if_neg hz]
  refine ⟨_, _, _, n, _, _, _, m₀, _, (fun i m nx => ∃ vs c o1 ov, nx = [(D, W.listOf vs.toArray c), (cO, o1), (cY, oY)] ∧ o1.data = .cell ov ∧ m (Str.ofString "counts") = some (.ref D) ∧ P (((rangeKs a₀ n).take i).foldl g cs0) ∧ IntsAre vs (((rangeKs a₀ n).take i).foldl g cs0)),
    rfl, KT, ?_, ?_, ?_, (by show IsRangeIter _ _ _ _ _; rw [hn]; simpa using Heap.get?_push_size _ rfl), F.push _, (fun p hp => ⟨Heap.get?_push_of_some _ (N p hp).1, (N p hp).2⟩), ?_, ?_, ?_⟩
  · intro hm
    exact absurd F.ns.lt ((List.mem_singleton.mp hm) ▸ Nat.lt_irrefl _)
  · intro b hb
    rw [List.mem_singleton.mp hb]
    exact next_is_new F
  · intro p hp hI
    exact absurd (Heap.lt_size (N p hp).1) ((List.mem_singleton.mp hI) ▸ Nat.lt_irrefl _)
  · obtain ⟨ov, hov⟩ := hO
    exact ⟨vs0, c0, oO, ov, rfl, hov, hD, by simpa using hP0, by simpa using hi⟩
  · rintro i v m₁ news₁ h₁ tk₁ own hin ⟨_, t, rfl⟩ ⟨vs, c, o1, ov, rfl, hov, hm, hPv, hiv⟩ hoff hsub _ _ _ F₁ N₁
    have e1 : a₀ + (i : Int) * 1 = a₀ + (i : Int) := by omega
    rw [e1]
    have hk : (rangeKs a₀ n)[i]? = some (a₀ + (i : Int)) := by simp [rangeKs, hin]
    have hs : ((rangeKs a₀ n).take (i + 1)).foldl g cs0 = g (((rangeKs a₀ n).take i).foldl g cs0) (a₀ + (i : Int)) := by
      rw [List.take_add_one, hk, List.foldl_append]
      rfl
    have off : OwnOff own [D, cO, cY] := by
      intro p hp b hb e
      have h1 := hsub p hp
      rw [e] at h1
      rcases List.mem_cons.mp hb with rfl | hb
      · exact hoff _ (.head _) h1
      · rcases List.mem_cons.mp hb with rfl | hb
        · exact hoff _ (.tail _ (.head _)) h1
        · rw [List.mem_singleton.mp hb] at h1
          exact hoff _ (.tail _ (.tail _ (.head _))) h1
    have N₂ : News h₀ env.locals h₁ ((D, W.listOf vs.toArray c) :: (cO, o1) :: (cY, oY) :: own) := by
      intro p hp
      refine N₁ p ?_
      rcases List.mem_cons.mp hp with rfl | hp
      · exact List.mem_append_right _ (.head _)
      · rcases List.mem_cons.mp hp with rfl | hp
        · exact List.mem_append_right _ (.tail _ (.head _))
        · rcases List.mem_cons.mp hp with rfl | hp
          · exact List.mem_append_right _ (.tail _ (.tail _ (.head _)))
          · exact List.mem_append_left _ hp
    have F₂ : Fr h₀ env.locals h₁ (fun z => if z = Str.ofString "counts" then some (.ref D) else m₁ z) := by rw [hsame m₁ hm]; exact F₁
    refine wpAny_mono (turn _ t m₁ vs _ c o1 ov h₁ tk₁ own (by omega) (by omega) off hov hiv hiv.length hPv F₂ N₂) (fun _ s₃ h₃ => wpAny_mono h₃ (fun f s₄ h₄ => ?_) fun _ _ e => e) fun _ _ e => e
    obtain ⟨rfl, h', tk, u, vs', c', o1', news', rfl, F', hu, N', m1, m2, ⟨ov', ho'⟩, m3, mo, hi'⟩ := h₄
    refine LoopStepU.intro (news₂ := [(D, W.listOf vs'.toArray c'), (cO, o1'), (cY, oY)]) F' ?_ ?_ ⟨vs', c', o1', ov', rfl, ho', hu, by rw [hs]; exact hPg _ _ hPv, by rw [hs]; exact hi'⟩
    · intro p hp
      rcases List.mem_append.mp hp with hp | hp
      · exact N' p (mo p hp)
      · rcases List.mem_cons.mp hp with rfl | hp
        · exact N' _ m1
        · rcases List.mem_cons.mp hp with rfl | hp
          · exact N' _ m2
          · rw [List.mem_singleton.mp hp]
            exact N' _ m3
    · intro p hp
      rcases List.mem_cons.mp hp with rfl | hp
      · exact hoff (D, W.listOf vs.toArray c) (.head _)
      · rcases List.mem_cons.mp hp with rfl | hp
        · exact hoff (cO, o1) (.tail _ (.head _))
        · rw [List.mem_singleton.mp hp]
          exact hoff (cY, oY) (.tail _ (.tail _ (.head _)))
  · rintro h' tk m' news' F' N' _ ⟨vs, c, o1, ov, rfl, hov, hm, _, hiv⟩
    have hl : (rangeKs a₀ n).take n = rangeKs a₀ n := List.take_of_length_le (Nat.le_of_eq (rangeKs_length _ _))
    rw [hl] at hiv
    exact done m' vs c o1 ov h' tk hov hiv (by rw [hsame m' hm]; exact F') N'
end
end

section
theorem cl_useL {prog : Program} {w : World} {K : Frag} {p : Program} {loose : List Str} {mean : ExcName → Option Value} {mg mb : Str → Option Value} {f : Addr} {r : Nat} {pre : List (Addr × Obj) → Prop} {vs : List Value} {ns : List Int}
    {news : List (Addr × Obj)} {dp un : Nat} {gd : Option (List Code)} {cn : Str} {cs : Scope} {a : Addr} {ccd : Value} {cl : List (Str × Addr)} {outer : List Env} {A₀ : Around} {base h₀ : Heap} {L : Addr} {mm : Str → Option Value} {s : Shared} {Q E : Value → Shared → Prop}
    (C : ClList prog w K p loose mean mg mb f r pre vs ns) (hpre : pre news) (B : Below A₀ base outer h₀) (F : Fr h₀ L s.heap mm) (X : K.In h₀) (N : News h₀ L s.heap news) (T : Top p loose mean mg mb h₀) (hk : cs.kind = .function) (hd : dp + r < recursionLimit) (hu : un + 10 * r < cLine)
    (h : ∀ (l : Addr) (zs : List Value) (c : Nat) (h' : Heap) (tk' : Nat), IntsAre zs ns → (∀ p ∈ news, p.1 < l) → Fr h₀ L h' mm → News h₀ L h' ((l, W.listOf zs.toArray c) :: news) → Q (.ref l) { s with heap := h', toks := tk' }) :
    wpAny (model prog w) (ktrTop dp un gd cn cs L a ccd cl outer) (call (.ref f) vs) Q E s := C _ _ _ _ _ _ _ _ _ _ _ _ _ _ _ _ _ _ hpre B F X N T hk hd hu h

structure LongMark : Prop where
def LongEnd (y : Int) (s : Shared) (v : Value) (s' : Shared) : Prop := v = .bool (decide (y % 400 = 0 ∨ (y % 4 = 0 ∧ y % 100 ≠ 0))) ∧ ∃ tk, s' = { s with toks := tk }
theorem fm {y : Int} : y.fmod 400 = y % 400 ∧ y.fmod 100 = y % 100 ∧ y.fmod 4 = y % 4 := ⟨Int.fmod_eq_emod_of_nonneg _ (by decide), Int.fmod_eq_emod_of_nonneg _ (by decide), Int.fmod_eq_emod_of_nonneg _ (by decide)⟩
theorem long1 {y : Int} (h : y.fmod 400 = 0) : (y.fmod 400 == 0) = decide (y % 400 = 0 ∨ (y % 4 = 0 ∧ y % 100 ≠ 0)) := by
  rw [h]
  rw [fm.1] at h
  simp [h]
theorem long2 {y : Int} (h : ¬ y.fmod 400 = 0) (h4 : y.fmod 4 = 0) : (y.fmod 100 != 0) = decide (y % 400 = 0 ∨ (y % 4 = 0 ∧ y % 100 ≠ 0)) := by
  rw [fm.1] at h
  rw [fm.2.2] at h4
  rw [fm.2.1]
  by_cases h1 : y % 100 = 0 <;> simp [h, h4, h1]
theorem long3 {y : Int} (h : ¬ y.fmod 400 = 0) (h4 : ¬ y.fmod 4 = 0) : (y.fmod 4 == 0) = decide (y % 400 = 0 ∨ (y % 4 = 0 ∧ y % 100 ≠ 0)) := by
  rw [fm.1] at h
  rw [fm.2.2] at h4 ⊢
  simp [h, h4]
theorem LongEnd.intro {y : Int} {s s' : Shared} {b : Bool} (h : b = decide (y % 400 = 0 ∨ (y % 4 = 0 ∧ y % 100 ≠ 0))) (hs : ∃ tk, s' = { s with toks := tk }) : LongEnd y s (.bool b) s' := ⟨congrArg Value.bool h, hs⟩
theorem long_cut {o : Obj} {y : Int} {tk0 : Tok} (_ : o.data = .cell (some (.int y tk0))) {M : Model} {A : Around} {t : Sem Value} {E : Value → Shared → Prop} {s : Shared} {Q : Value → Shared → Prop}
    (h1 : LongMark → wpAny M A t (LongEnd y s) E s) (h2 : ∀ tk, Q (.bool (decide (y % 400 = 0 ∨ (y % 4 = 0 ∧ y % 100 ≠ 0)))) { s with toks := tk }) : wpAny M A t Q E s :=
  wpAny_mono (h1 ⟨⟩) (fun v s' h => by
    obtain ⟨rfl, tk, rfl⟩ := h
    exact h2 tk) (fun _ _ x => x)

theorem ne_same {prog : Program} {w : World} {A : Around} {E : Value → Shared → Prop} {s : Shared} {Q : Value → Shared → Prop} {a b : Addr} {vs us : List Value} {ns ms : List Int} (hl : s.heap.IsList a vs.toArray) (hi : IntsAre vs ns) (hl' : s.heap.IsList b us.toArray) (hi' : IntsAre us ms) (hu : A.units + 64 < cLine)
    (e : ns = ms) (h : Q (.bool false) s) : wpAny (model prog w) A (compareOp .NotEq (.ref a) (.ref b)) Q E s :=
  ne_intsK hl hi hl' hi' hu (by subst e; simpa using h)

theorem ne_known {prog : Program} {w : World} {A : Around} {E : Value → Shared → Prop} {s : Shared} {Q : Value → Shared → Prop} {a b : Int} {t u : Tok} (e : a = b) (h : Q (.bool false) s) : wpAny (model prog w) A (compareOp .NotEq (.int a t) (.int b u)) Q E s :=
  ne_int (by subst e; simpa using h)
theorem j_counts' (y : Int) : counts7 ((rangeKs 1 (13 - 1 : Int).toNat).map (fun k => jday y k)) = dueL (y.fmod 4 == 0) := by
  refine j_counts y _ ?_
  rw [Int.fmod_eq_emod_of_nonneg _ (by decide)]
  rfl
theorem months_len (f : Int → Int) : ((rangeKs 1 (13 - 1 : Int).toNat).map f).length = 12 := by rw [List.length_map, rangeKs_length]; decide
theorem cCG (w : World) (p : Program) (loose : List Str) (mean : ExcName → Option Value) (mg mb : Str → Option Value) (D : Addr) (ys : List Value) (y : Int) :
    ClList PySem.Challenge.rw_ad5016_01.prog w (hd.heap_39 w.params) p loose mean mg mb 121 3 (fun news => (D, LCg.lst ys) ∈ news ∧ IntsAre ys ((rangeKs 1 (13 - 1 : Int).toNat).map (fun k => gday y k))) [.ref D] (dueL (decide (y % 400 = 0 ∨ (y % 4 = 0 ∧ y % 100 ≠ 0)))) := by
  rw [← g_counts y _ rfl]
  intro a1 a2 a3 a4 a5 a6 a7 a8 a9 a10 a11 a12 a13 a14 a15 a16 a17 a18 hp
  exact cC w p loose mean mg mb D ys _ a1 a2 a3 a4 a5 a6 a7 a8 a9 a10 a11 a12 a13 a14 a15 a16 a17 a18 ⟨hp.1, hp.2, by rw [months_len]; decide, by rw [months_len]; decide⟩
theorem cCJ (w : World) (p : Program) (loose : List Str) (mean : ExcName → Option Value) (mg mb : Str → Option Value) (D : Addr) (ys : List Value) (y : Int) :
    ClList PySem.Challenge.rw_ad5016_01.prog w (hd.heap_39 w.params) p loose mean mg mb 121 3 (fun news => (D, LCg.lst ys) ∈ news ∧ IntsAre ys ((rangeKs 1 (13 - 1 : Int).toNat).map (fun k => jday y k))) [.ref D] (dueL (y.fmod 4 == 0)) := by
  rw [← j_counts' y]
  intro a1 a2 a3 a4 a5 a6 a7 a8 a9 a10 a11 a12 a13 a14 a15 a16 a17 a18 hp
  exact cC w p loose mean mg mb D ys _ a1 a2 a3 a4 a5 a6 a7 a8 a9 a10 a11 a12 a13 a14 a15 a16 a17 a18 ⟨hp.1, hp.2, by rw [months_len]; decide, by rw [months_len]; decide⟩
theorem dueL_len {zs : List Value} {b : Bool} (_ : IntsAre zs (dueL b)) : (dueL b).length = 7 := by cases b <;> rfl
theorem due_len {zs : List Value} {b : Bool} (h : IntsAre zs (dueL b)) : zs.length = 7 := h.length.trans (dueL_len h)
theorem j_31' {y k : Int} (h : k = y) : jday (y + 1) 1 - jday k 12 = 31 := by rw [h]; exact j_31 y
theorem news_pick {h₀ h : Heap} {L : Addr} {a1 a2 a3 a4 a5 a6 a7 : Addr × Obj} (N : News h₀ L h [a1, a2, a3, a4, a5, a6, a7]) : News h₀ L h [a1, a6, a7] := fun p hp => by
  refine N p ?_
  rcases List.mem_cons.mp hp with rfl | hp
  · exact .head _
  · rcases List.mem_cons.mp hp with rfl | hp
    · exact .tail _ (.tail _ (.tail _ (.tail _ (.tail _ (.head _)))))
    · rw [List.mem_singleton.mp hp]
      exact .tail _ (.tail _ (.tail _ (.tail _ (.tail _ (.tail _ (.head _))))))
theorem size28 (y : Int) : Builtin.Range.rangeSize y (y + 28) 1 = ((28 : Nat) : Int) := by
  rw [rangeSize_nat]
  congr 1
  omega
/-- one turn of the loop of years -/
def bstep (d0 : Int) (fs : List Int) (c : List Int) (k : Nat) : List Int := c.set ((d0 + (k : Int)).fmod 7).toNat (c.getD ((d0 + (k : Int)).fmod 7).toNat 0 + fs.getD k 0)
theorem bstep_len (d0 : Int) (fs c : List Int) (k : Nat) : (bstep d0 fs c k).length = c.length := List.length_set
def bumpJ (c : List Int) (y : Int) : List Int := [0, 1, 2, 3, 4, 5, 6].foldl (bstep (jday y 1) (dueL (y.fmod 4 == 0))) c
theorem bump_len (c : List Int) (y : Int) (h : c.length = 7) : (bumpJ c y).length = 7 := by
  unfold bumpJ
  simp only [List.foldl_cons, List.foldl_nil, bstep_len, h]

theorem jday_28 (r q : Int) : jday (r + 28 * q) 1 = jday r 1 + 7 * (1461 * q) := by
  unfold jday jJ
  simp only [show ((1 : Int) ≤ 2) = True by simp, if_true]
  have e : 1461 * (r + 28 * q - 1 + 4716) = 1461 * (r - 1 + 4716) + 4 * (10227 * q) := by omega
  rw [e, Int.add_mul_ediv_left _ _ (by decide)]
  omega
theorem bstep_7 (d t : Int) (fs c : List Int) (k : Nat) : bstep (d + 7 * t) fs c k = bstep d fs c k := by
  unfold bstep
  have e : (d + 7 * t + (k : Int)).fmod 7 = (d + (k : Int)).fmod 7 := by
    rw [Int.fmod_eq_emod_of_nonneg _ (by decide), Int.fmod_eq_emod_of_nonneg _ (by decide)]
    omega
  rw [e]
theorem bumpJ_28 (c : List Int) (r q : Int) : bumpJ c (r + 28 * q) = bumpJ c r := by
  unfold bumpJ
  have e : ((r + 28 * q).fmod 4 == 0) = (r.fmod 4 == 0) := by
    rw [Int.fmod_eq_emod_of_nonneg _ (by decide), Int.fmod_eq_emod_of_nonneg _ (by decide)]
    have e2 : (r + 28 * q) % 4 = r % 4 := by omega
    rw [e2]
  rw [e, jday_28]
  simp only [List.foldl_cons, List.foldl_nil, bstep_7]
theorem bump_map (q : Int) : ∀ (xs : List Int) (c : List Int), (xs.map (· + 28 * q)).foldl bumpJ c = xs.foldl bumpJ c
  | [], _ => rfl
  | x :: r, c => by
    rw [List.map_cons, List.foldl_cons, List.foldl_cons, bumpJ_28, bump_map q r]
theorem rangeKs_shift (r q : Int) (n : Nat) : rangeKs (r + 28 * q) n = (rangeKs r n).map (· + 28 * q) := by
  unfold rangeKs
  rw [List.map_map]
  apply List.map_congr_left
  intro i _
  show r + 28 * q + (i : Int) = r + (i : Int) + 28 * q
  omega
theorem years_case : ∀ r : Fin 28, (rangeKs (r.val : Int) 28).foldl bumpJ [0, 0, 0, 0, 0, 0, 0] = [48, 48, 48, 48, 48, 48, 48] := by decide +kernel
theorem years_total (y : Int) : (rangeKs y 28).foldl bumpJ [0, 0, 0, 0, 0, 0, 0] = [48, 48, 48, 48, 48, 48, 48] := by
  have h1 := Int.emod_add_mul_ediv y 28
  have h2 := Int.emod_nonneg y (show (28 : Int) ≠ 0 by decide)
  have h3 := Int.emod_lt_of_pos y (show (0 : Int) < 28 by decide)
  have h := years_case ⟨(y % 28).toNat, by omega⟩
  have e : (((y % 28).toNat : Nat) : Int) = y % 28 := by omega
  simp only [e] at h
  rw [← h1, rangeKs_shift, bump_map]
  exact h
theorem eq_same {prog : Program} {w : World} {A : Around} {E : Value → Shared → Prop} {s : Shared} {Q : Value → Shared → Prop} {a b : Addr} {vs us : List Value} {ns ms : List Int} (hl : s.heap.IsList a vs.toArray) (hi : IntsAre vs ns) (hl' : s.heap.IsList b us.toArray) (hi' : IntsAre us ms) (hu : A.units + 64 < cLine)
    (e : ns = ms) (h : Q (.bool true) s) : wpAny (model prog w) A (compareOp .Eq (.ref a) (.ref b)) Q E s :=
  eq_intsK hl hi hl' hi' hu (by subst e; simpa using h)
end

section
def lawBody : List Stmt := match PySem.Challenge.pw_ad5016_01.main.body.getLast? with
  | some (.FunctionDef (body := b) ..) => b
  | _ => []
def lawScope : Scope := match PySem.Challenge.pw_ad5016_01.main.body.getLast? with
  | some (.FunctionDef (scope := c) ..) => c
  | _ => default
def turnBody : List Stmt := match (lawBody[6]? : Option Stmt) with
  | some (.For _ _ b _ _) => b
  | _ => []
local macro_rules | `(tactic| k_room) => `(tactic| ktr_room)
local macro_rules | `(tactic| k_units) => `(tactic| ktr_units)
local macro_rules | `(tactic| walk_at "eval BoolOp") => `(tactic| (k_here; (fail_if_success (rename LongMark => hM9)); (rename (Obj.data _ = Data.cell (some (Value.int _ _))) => hc9); refine' long_cut hc9 ?c1 ?_; (case c1 => intro hM9; k_steps; all_goals (refine LongEnd.intro ?_ ⟨_, rfl⟩; first | exact long1 (by assumption) | exact long2 (by assumption) (by assumption) | exact long3 (by assumption) (by assumption))); intro tk9; (try (have nb9 := near_fact hc9))))
local macro_rules | `(tactic| walk_at "compareOp NotEq ref ref") => `(tactic| (k_here; (with_reducible show wpAny _ _ (compareOp CmpOp.NotEq (Value.ref _) (Value.ref _)) _ _ _); (with_unfolding_all refine' ne_same ?k1 ?k2 ?k3 ?k4 ?k5 ?ke ?_; (case k1 => is_list); (case k2 => assumption); (case k3 => is_list); (case k4 => assumption); (case k5 => units_room); (case ke => with_reducible rfl); k_whole)))
local macro_rules | `(tactic| walk_at "call ref") => `(tactic| (k_here; k_dflt (refine' cl_use (cG _ _ _ _ _ _ _ _ _ _ _) ?kp ?k1 ?k2 ?k3 ?k4 ?k5 ?kK ?kd ?ku ?_; (case k1 => k_asm); (case k2 => k_asm); (case k3 => k_asm); (case k4 => k_asm); (case k5 => k_asm); (case kK => first | exact rfl | assumption); (case kp => (refine ⟨?_, ?_, ?_, ?_⟩ <;> omega)); (case kd => ktr_room); (case ku => ktr_units); intro v9 h9 tk9 r9 F9 N9; obtain ⟨x9, t9, e9, hx9⟩ := r9; subst e9; (try dsimp only); (try k_fold))))
local macro_rules | `(tactic| walk_at "call ref") => `(tactic| (k_here; k_dflt (refine' cl_use (cJ _ _ _ _ _ _ _ _ _ _ _) ?kp ?k1 ?k2 ?k3 ?k4 ?k5 ?kK ?kd ?ku ?_; (case k1 => k_asm); (case k2 => k_asm); (case k3 => k_asm); (case k4 => k_asm); (case k5 => k_asm); (case kK => first | exact rfl | assumption); (case kp => (refine ⟨?_, ?_, ?_, ?_⟩ <;> omega)); (case kd => ktr_room); (case ku => ktr_units); intro v9 h9 tk9 r9 F9 N9; obtain ⟨x9, t9, e9, hx9⟩ := r9; subst e9; (try dsimp only); (try k_fold))))
local macro_rules | `(tactic| walk_at "call ref") => `(tactic| (k_here; k_dflt (refine' cl_use (cDG _ _ _ _ _ _ _ _ _ _) ?kp ?k1 ?k2 ?k3 ?k4 ?k5 ?kK ?kd ?ku ?_; (case k1 => k_asm); (case k2 => k_asm); (case k3 => k_asm); (case k4 => k_asm); (case k5 => k_asm); (case kK => first | exact rfl | assumption); (case kp => (refine ⟨by assumption, ?_, ?_, ?_, ?_⟩ <;> omega)); (case kd => ktr_room); (case ku => ktr_units); intro v9 h9 tk9 r9 F9 N9; obtain ⟨t9, e9⟩ := r9; subst e9; (try dsimp only); (try k_fold))))
local macro_rules | `(tactic| walk_at "call ref") => `(tactic| (k_here; k_dflt (refine' cl_use (cDJ _ _ _ _ _ _ _ _ _ _) ?kp ?k1 ?k2 ?k3 ?k4 ?k5 ?kK ?kd ?ku ?_; (case k1 => k_asm); (case k2 => k_asm); (case k3 => k_asm); (case k4 => k_asm); (case k5 => k_asm); (case kK => first | exact rfl | assumption); (case kp => (refine ⟨by assumption, ?_, ?_, ?_, ?_⟩ <;> omega)); (case kd => ktr_room); (case ku => ktr_units); intro v9 h9 tk9 r9 F9 N9; obtain ⟨t9, e9⟩ := r9; subst e9; (try dsimp only); (try k_fold))))
local macro_rules | `(tactic| walk_at "call ref") => `(tactic| (k_here; k_dflt (refine' cl_use (cN _ _ _ _ _ _ _ _) ?kp ?k1 ?k2 ?k3 ?k4 ?k5 ?kK ?kd ?ku ?_; (case k1 => k_asm); (case k2 => k_asm); (case k3 => k_asm); (case k4 => k_asm); (case k5 => k_asm); (case kK => first | exact rfl | assumption); (case kp => trivial); (case kd => ktr_room); (case ku => ktr_units); intro v9 h9 tk9 r9 F9 N9; obtain ⟨t9, e9⟩ := r9; subst e9; (try dsimp only); (try k_fold))))
local macro_rules | `(tactic| walk_at "call ref") => `(tactic| (k_here; k_dflt (refine' cl_useL (cCG _ _ _ _ _ _ _ _ _) ?kp ?k1 ?k2 ?k3 ?k4 ?k5 ?kK ?kd ?ku ?_; (case k1 => k_asm); (case k2 => k_asm); (case k3 => k_asm); (case k4 => k_asm); (case k5 => k_asm); (case kK => first | exact rfl | assumption); (case kp => exact ⟨by k_mem, by assumption⟩); (case kd => ktr_room); (case ku => ktr_units); intro l9 zs9 c9 h9 tk9 i9 lt9 F9 N9; (have len9 := due_len i9); (have len8 := dueL_len i9); (try dsimp only); (try k_fold); (try k_lt lt9))))
local macro_rules | `(tactic| walk_at "call ref") => `(tactic| (k_here; k_dflt (refine' cl_useL (cCJ _ _ _ _ _ _ _ _ _) ?kp ?k1 ?k2 ?k3 ?k4 ?k5 ?kK ?kd ?ku ?_; (case k1 => k_asm); (case k2 => k_asm); (case k3 => k_asm); (case k4 => k_asm); (case k5 => k_asm); (case kK => first | exact rfl | assumption); (case kp => exact ⟨by k_mem, by assumption⟩); (case kd => ktr_room); (case ku => ktr_units); intro l9 zs9 c9 h9 tk9 i9 lt9 F9 N9; (have len9 := due_len i9); (have len8 := dueL_len i9); (try dsimp only); (try k_fold); (try k_lt lt9))))
local macro_rules | `(tactic| walk_at "call ref") => `(tactic| (k_here; k_dflt (refine' cl_useL (cU _ _ _ _ _ _ _) ?kp ?k1 ?k2 ?k3 ?k4 ?k5 ?kK ?kd ?ku ?_; (case k1 => k_asm); (case k2 => k_asm); (case k3 => k_asm); (case k4 => k_asm); (case k5 => k_asm); (case kK => first | exact rfl | assumption); (case kp => trivial); (case kd => ktr_room); (case ku => ktr_units); intro l9 zs9 c9 h9 tk9 i9 lt9 F9 N9; (have len9 := due_len i9); (have len8 := dueL_len i9); (try dsimp only); (try k_fold); (try k_lt lt9))))
local macro_rules | `(tactic| walk_at "compareOp Eq ref ref") => `(tactic| (k_here; (with_reducible show wpAny _ _ (compareOp CmpOp.Eq (Value.ref _) (Value.ref _)) _ _ _); (with_unfolding_all refine' eq_same ?k1 ?k2 ?k3 ?k4 ?k5 ?ke ?_; (case k1 => is_list); (case k2 => assumption); (case k3 => is_list); (case k4 => assumption); (case k5 => units_room); (case ke => k_dflt (exact years_total _)); k_whole)))
local macro_rules | `(tactic| walk_at "UnrEnd") => `(tactic| ((rename News _ _ _ _ => N9); (rename Fr _ _ _ _ => F9); k_dflt (refine UnrEnd.intro F9 N9 _ (fun _ hp => hp) (fun p hp => Nat.ne_of_lt (allLt_back (by assumption) p hp)) ?_)))
local macro_rules | `(tactic| walk_at "compareOp NotEq int int") => `(tactic| (refine ne_known ?e ?_; (case e => k_dflt (first | exact g_31 _ | exact j_31 _ | exact j_31' (by omega) | exact g_2025 | exact j_2025))))
local macro_rules | `(tactic| walk_at "exec For Name Call cons nil") => `(tactic| (k_here; (with_reducible show wpAny _ _ (exec (Stmt.For (Expr.Name (PySem.Str.ofString "other") _) _ _ [] _) _) _ _ _); (rename Fr _ _ _ _ => lF'); (with_unfolding_all refine' For_turns lF' ?_; k_whole)))
local macro_rules | `(tactic| passes_own) => `(tactic| assumption)
set_option maxRecDepth 100000 in
set_option maxHeartbeats 8000000 in
theorem cT (w : World) (p : Program) (loose : List Str) (mean : ExcName → Option Value) (mg mb : Str → Option Value) (h₀ base : Heap) (L D : Nat) (fa : Addr) (cdv : Value) (y0 : Int) (tY : Tok) (oY : Obj) (px : Pos)
    (B : Below callerA base [] h₀) (X : (hd.heap_39 w.params).In h₀) (T : Top p loose mean mg mb h₀) (dY : oY.data = .cell (some (.int y0 tY))) (hy1 : -2000000 ≤ y0) (hy2 : y0 ≤ 2000000000) (hDL : L + 1 + 1 < D) (E : Value → Shared → Prop) (hE : PassesOwn (model PySem.Challenge.rw_ad5016_01.prog w) (callerA.deeper (envOfC (Str.ofString "law") lawScope L fa cdv)) (envOfC (Str.ofString "law") lawScope L fa cdv) E)
    (k : Int) (t : Tok) (u : Str → Option Value) (vs : List Value) (cs : List Int) (c : Nat) (o1 : Obj) (ov : Option Value) (h : Heap) (tk : Nat) (own : List (Addr × Obj)) (s : Shared)
    (hk1 : y0 ≤ k) (hk2 : k < y0 + 28) (off : OwnOff own [D, L + 1 + 1, L + 1]) (ho : o1.data = .cell ov) (hi : IntsAre vs cs) (hl : vs.length = cs.length) (h7 : cs.length = 7)
    (F : Fr h₀ L h (fun z => if z = Str.ofString "counts" then some (.ref D) else u z)) (N : News h₀ L h ((D, W.listOf vs.toArray c) :: (L + 1 + 1, o1) :: (L + 1, oY) :: own)) :
    wpAny (model PySem.Challenge.rw_ad5016_01.prog w) (callerA.deeper (envOfC (Str.ofString "law") lawScope L fa cdv)) (assign (.Name (Str.ofString "other") px) (envOfC (Str.ofString "law") lawScope L fa cdv) (.int k t))
      (fun _ s₃ => wpAny (model PySem.Challenge.rw_ad5016_01.prog w) (callerA.deeper (envOfC (Str.ofString "law") lawScope L fa cdv)) (execs turnBody (envOfC (Str.ofString "law") lawScope L fa cdv)) (YearEnd h₀ L D (L + 1 + 1) (L + 1) oY own (bumpJ cs k) { s with heap := h, toks := tk }) E s₃) E { s with heap := h, toks := tk } := by
  revert X
  k_with_none
  k_fill
  intro X
  conv in (occs := *) turnBody => all_goals whnf
  conv in (occs := *) lawScope => all_goals whnf
  k_steps
  all_goals (refine' yearEnd ?F ?hu ?N ?m1 ?m2 ?ho ?m3 ?mo ?hi; (case F => assumption); (case hu => first | rfl | with_unfolding_all rfl); (case N => assumption); (case m1 => first | k_mem | k_dflt k_mem); (case m2 => first | k_mem | k_dflt k_mem); (case ho => assumption); (case m3 => first | k_mem | k_dflt k_mem); (case mo => intro p9 hp9; repeat (first | exact hp9 | refine List.Mem.tail _ ?_)); (case hi => (rename (IntsAre _ (List.set _ _ _)) => hz); first | (k_dflt (exact hz)) | (with_unfolding_all exact hz) | (simpa [bumpJ, bstep] using hz)))
end

section
local macro_rules | `(tactic| k_room) => `(tactic| ktr_room)
local macro_rules | `(tactic| k_units) => `(tactic| ktr_units)
local macro_rules | `(tactic| walk_at "eval BoolOp") => `(tactic| (k_here; (fail_if_success (rename LongMark => hM9)); (rename (Obj.data _ = Data.cell (some (Value.int _ _))) => hc9); refine' long_cut hc9 ?c1 ?_; (case c1 => intro hM9; k_steps; all_goals (refine LongEnd.intro ?_ ⟨_, rfl⟩; first | exact long1 (by assumption) | exact long2 (by assumption) (by assumption) | exact long3 (by assumption) (by assumption))); intro tk9; (try (have nb9 := near_fact hc9))))
local macro_rules | `(tactic| walk_at "compareOp NotEq ref ref") => `(tactic| (k_here; (with_reducible show wpAny _ _ (compareOp CmpOp.NotEq (Value.ref _) (Value.ref _)) _ _ _); (with_unfolding_all refine' ne_same ?k1 ?k2 ?k3 ?k4 ?k5 ?ke ?_; (case k1 => is_list); (case k2 => assumption); (case k3 => is_list); (case k4 => assumption); (case k5 => units_room); (case ke => with_reducible rfl); k_whole)))
local macro_rules | `(tactic| walk_at "call ref") => `(tactic| (k_here; k_dflt (refine' cl_use (cG _ _ _ _ _ _ _ _ _ _ _) ?kp ?k1 ?k2 ?k3 ?k4 ?k5 ?kK ?kd ?ku ?_; (case k1 => k_asm); (case k2 => k_asm); (case k3 => k_asm); (case k4 => k_asm); (case k5 => k_asm); (case kK => first | exact rfl | assumption); (case kp => (refine ⟨?_, ?_, ?_, ?_⟩ <;> omega)); (case kd => ktr_room); (case ku => ktr_units); intro v9 h9 tk9 r9 F9 N9; obtain ⟨x9, t9, e9, hx9⟩ := r9; subst e9; (try dsimp only); (try k_fold))))
local macro_rules | `(tactic| walk_at "call ref") => `(tactic| (k_here; k_dflt (refine' cl_use (cJ _ _ _ _ _ _ _ _ _ _ _) ?kp ?k1 ?k2 ?k3 ?k4 ?k5 ?kK ?kd ?ku ?_; (case k1 => k_asm); (case k2 => k_asm); (case k3 => k_asm); (case k4 => k_asm); (case k5 => k_asm); (case kK => first | exact rfl | assumption); (case kp => (refine ⟨?_, ?_, ?_, ?_⟩ <;> omega)); (case kd => ktr_room); (case ku => ktr_units); intro v9 h9 tk9 r9 F9 N9; obtain ⟨x9, t9, e9, hx9⟩ := r9; subst e9; (try dsimp only); (try k_fold))))
local macro_rules | `(tactic| walk_at "call ref") => `(tactic| (k_here; k_dflt (refine' cl_use (cDG _ _ _ _ _ _ _ _ _ _) ?kp ?k1 ?k2 ?k3 ?k4 ?k5 ?kK ?kd ?ku ?_; (case k1 => k_asm); (case k2 => k_asm); (case k3 => k_asm); (case k4 => k_asm); (case k5 => k_asm); (case kK => first | exact rfl | assumption); (case kp => (refine ⟨by assumption, ?_, ?_, ?_, ?_⟩ <;> omega)); (case kd => ktr_room); (case ku => ktr_units); intro v9 h9 tk9 r9 F9 N9; obtain ⟨t9, e9⟩ := r9; subst e9; (try dsimp only); (try k_fold))))
local macro_rules | `(tactic| walk_at "call ref") => `(tactic| (k_here; k_dflt (refine' cl_use (cDJ _ _ _ _ _ _ _ _ _ _) ?kp ?k1 ?k2 ?k3 ?k4 ?k5 ?kK ?kd ?ku ?_; (case k1 => k_asm); (case k2 => k_asm); (case k3 => k_asm); (case k4 => k_asm); (case k5 => k_asm); (case kK => first | exact rfl | assumption); (case kp => (refine ⟨by assumption, ?_, ?_, ?_, ?_⟩ <;> omega)); (case kd => ktr_room); (case ku => ktr_units); intro v9 h9 tk9 r9 F9 N9; obtain ⟨t9, e9⟩ := r9; subst e9; (try dsimp only); (try k_fold))))
local macro_rules | `(tactic| walk_at "call ref") => `(tactic| (k_here; k_dflt (refine' cl_use (cN _ _ _ _ _ _ _ _) ?kp ?k1 ?k2 ?k3 ?k4 ?k5 ?kK ?kd ?ku ?_; (case k1 => k_asm); (case k2 => k_asm); (case k3 => k_asm); (case k4 => k_asm); (case k5 => k_asm); (case kK => first | exact rfl | assumption); (case kp => trivial); (case kd => ktr_room); (case ku => ktr_units); intro v9 h9 tk9 r9 F9 N9; obtain ⟨t9, e9⟩ := r9; subst e9; (try dsimp only); (try k_fold))))
local macro_rules | `(tactic| walk_at "call ref") => `(tactic| (k_here; k_dflt (refine' cl_useL (cCG _ _ _ _ _ _ _ _ _) ?kp ?k1 ?k2 ?k3 ?k4 ?k5 ?kK ?kd ?ku ?_; (case k1 => k_asm); (case k2 => k_asm); (case k3 => k_asm); (case k4 => k_asm); (case k5 => k_asm); (case kK => first | exact rfl | assumption); (case kp => exact ⟨by k_mem, by assumption⟩); (case kd => ktr_room); (case ku => ktr_units); intro l9 zs9 c9 h9 tk9 i9 lt9 F9 N9; (have len9 := due_len i9); (have len8 := dueL_len i9); (try dsimp only); (try k_fold); (try k_lt lt9))))
local macro_rules | `(tactic| walk_at "call ref") => `(tactic| (k_here; k_dflt (refine' cl_useL (cCJ _ _ _ _ _ _ _ _ _) ?kp ?k1 ?k2 ?k3 ?k4 ?k5 ?kK ?kd ?ku ?_; (case k1 => k_asm); (case k2 => k_asm); (case k3 => k_asm); (case k4 => k_asm); (case k5 => k_asm); (case kK => first | exact rfl | assumption); (case kp => exact ⟨by k_mem, by assumption⟩); (case kd => ktr_room); (case ku => ktr_units); intro l9 zs9 c9 h9 tk9 i9 lt9 F9 N9; (have len9 := due_len i9); (have len8 := dueL_len i9); (try dsimp only); (try k_fold); (try k_lt lt9))))
local macro_rules | `(tactic| walk_at "call ref") => `(tactic| (k_here; k_dflt (refine' cl_useL (cU _ _ _ _ _ _ _) ?kp ?k1 ?k2 ?k3 ?k4 ?k5 ?kK ?kd ?ku ?_; (case k1 => k_asm); (case k2 => k_asm); (case k3 => k_asm); (case k4 => k_asm); (case k5 => k_asm); (case kK => first | exact rfl | assumption); (case kp => trivial); (case kd => ktr_room); (case ku => ktr_units); intro l9 zs9 c9 h9 tk9 i9 lt9 F9 N9; (have len9 := due_len i9); (have len8 := dueL_len i9); (try dsimp only); (try k_fold); (try k_lt lt9))))
local macro_rules | `(tactic| walk_at "compareOp Eq ref ref") => `(tactic| (k_here; (with_reducible show wpAny _ _ (compareOp CmpOp.Eq (Value.ref _) (Value.ref _)) _ _ _); (with_unfolding_all refine' eq_same ?k1 ?k2 ?k3 ?k4 ?k5 ?ke ?_; (case k1 => is_list); (case k2 => assumption); (case k3 => is_list); (case k4 => assumption); (case k5 => units_room); (case ke => k_dflt (exact years_total _)); k_whole)))
local macro_rules | `(tactic| walk_at "UnrEnd") => `(tactic| ((rename News _ _ _ _ => N9); (rename Fr _ _ _ _ => F9); k_dflt (refine UnrEnd.intro F9 N9 _ (fun _ hp => hp) (fun p hp => Nat.ne_of_lt (allLt_back (by assumption) p hp)) ?_)))
local macro_rules | `(tactic| walk_at "compareOp NotEq int int") => `(tactic| (refine ne_known ?e ?_; (case e => k_dflt (first | exact g_31 _ | exact j_31 _ | exact j_31' (by omega) | exact g_2025 | exact j_2025))))
local macro_rules | `(tactic| walk_at "exec For Name Call cons nil") => `(tactic| (k_here; (with_reducible show wpAny _ _ (exec (Stmt.For (Expr.Name (PySem.Str.ofString "other") _) _ _ [] _) _) _ _ _); (rename Fr _ _ _ _ => lF'); (with_unfolding_all refine' For_turns lF' ?_; k_whole)))
set_option maxRecDepth 100000 in
set_option maxHeartbeats 8000000 in
theorem t : PySem.Challenge.rw_ad5016_01.Holds := Mine.hd (by
  k_with_none
  w_strict (
    k_go0
    all_goals try k_fold
    k_steps
    (with_reducible show wpAny _ _ (pyIter (Value.ref _)) (fun it s₂ => TurnsAt _ _ _ _ _ _ _ _ _ it s₂) _ _)
    (rename Fr _ _ _ _ => lF')
    (rename News _ _ _ _ => lN')
    (rename IsRange _ _ _ _ _ _ _ _ => rgX)
    with_unfolding_all refine' iter_years bumpJ (by rfl) rgX (by exact small_one (by omega) (by omega) (by omega) (by omega)) (size28 _) lF' (by rfl) (news_pick lN') ⟨_, by assumption⟩ (by assumption) (fun c9 => c9.length = 7) (by rfl) bump_len ?kturn ?kdone
    all_goals (try clear lF' lN')
    case kturn =>
      intro k9 t9 u9 vs9 cs9 c9 o9 ov9 h9 tk9 own9 lo9 hi9 off9 ho9 is9 ln9 P9 F9 N9
      exact cT _ _ _ _ _ _ _ _ _ _ _ _ _ _ _ _ (by assumption) (by assumption) (by assumption) (by assumption) (by omega) (by omega) (by omega) _ (by with_unfolding_all passes_own) k9 t9 u9 vs9 cs9 c9 o9 ov9 h9 tk9 own9 _ lo9 hi9 off9 ho9 is9 ln9 P9 F9 N9
    case kdone =>
      intro u9 vs9 c9 o9 ov9 h9 tk9 ho9 hi9 F9 N9
      try dsimp only
      try k_fold
      k_steps))
end

end Mine

set_option maxRecDepth 100000 in
theorem PySem.Challenge.cw_ad5016_01_holds : PySem.Challenge.rw_ad5016_01.Holds := by
  exact Mine.t
