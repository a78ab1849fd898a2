import PyProof.Rows.All
import Wide.All
import OpenK.AllK
import Wide.FinOn
import Lean
import PySem.Challenge.RW_ad5009_01
open PySem PySem.W PySem.Calls PyProof.Rows
set_option Elab.async false
set_option maxRecDepth 100000



/-! ## HebFlt -/
namespace Heb
open PySem.Float64

/-- the float whose size is W (in units of 2^-1074) -/
def At (r : UInt64) (neg : Bool) (W : Nat) : Prop := ∃ t, r = pack neg t ∧ t < infMag ∧ V t = W
theorem V_inj {a b : Nat} (h : V a = V b) : a = b := by
  rcases Nat.lt_trichotomy a b with q | q | q
  · exact absurd h (Nat.ne_of_lt (V_lt q))
  · exact q
  · exact absurd h.symm (Nat.ne_of_lt (V_lt q))
theorem At.unique {r r' : UInt64} {neg : Bool} {W : Nat} (h : At r neg W) (h' : At r' neg W) : r = r' := by
  obtain ⟨t, e, _, v⟩ := h
  obtain ⟨t', e', _, v'⟩ := h'
  rw [e, e', V_inj (v.trans v'.symm)]
theorem At.decode {r : UInt64} {neg : Bool} {W : Nat} (h : At r neg W) : ∃ m e, decode r = .fin neg m e ∧ val r = sgn neg W := by
  obtain ⟨t, rfl, ht, v⟩ := h
  obtain ⟨m, e, hd, _⟩ := decode_pack neg ht
  exact ⟨m, e, hd, by rw [val_pack neg ht, v]⟩
/-- a size of at most 53 binary places is a float's -/
theorem rep {N k : Nat} (hN : N ≤ 2 ^ 53) (hk : k ≤ 1100) (hk0 : 100 ≤ k) : ∃ t, t < infMag ∧ V t = N * 2 ^ k := by
  have hi : infMag = 2047 * 2 ^ 52 := rfl
  by_cases h0 : N = 0
  · exact ⟨0, by rw [hi]; decide, by rw [V_zero, h0, Nat.zero_mul]⟩
  · have hl := Nat.log2_self_le h0
    have hl2 := Nat.lt_log2_self (n := N)
    by_cases hbig : 52 ≤ N.log2
    · have h52 : 2 ^ 52 ≤ N := Nat.le_trans (Nat.pow_le_pow_right (by decide) hbig) hl
      refine ⟨k * 2 ^ 52 + N, by rw [hi]; omega, V_at hN (.inl h52)⟩
    · obtain ⟨j, hj⟩ : ∃ j, N.log2 + j = 52 := ⟨52 - N.log2, by omega⟩
      have h1 : 2 ^ 52 ≤ N * 2 ^ j := by
        rw [← hj, Nat.pow_add]; exact Nat.mul_le_mul_right _ hl
      have h2 : N * 2 ^ j ≤ 2 ^ 53 := by
        have : (2 : Nat) ^ 53 = 2 ^ (N.log2 + 1) * 2 ^ j := by rw [← Nat.pow_add]; congr 1; omega
        rw [this]; exact Nat.mul_le_mul_right _ (Nat.le_of_lt hl2)
      refine ⟨(k - j) * 2 ^ 52 + N * 2 ^ j, ?_, ?_⟩
      · rw [hi]
        have : (k - j) * 2 ^ 52 ≤ 1100 * 2 ^ 52 := Nat.mul_le_mul_right _ (by omega)
        omega
      · rw [V_at h2 (.inl h1), Nat.mul_assoc, ← Nat.pow_add]
        congr 2
        omega
theorem small_lt {N k : Nat} (hN : N ≤ 2 ^ 53) (hk : k ≤ 1100) : 2 * (N * 2 ^ k) < (2 ^ 54 - 1) * 2 ^ 2045 := by
  have h1 : N * 2 ^ k ≤ 2 ^ 53 * 2 ^ 1100 := Nat.mul_le_mul hN (Nat.pow_le_pow_right (by decide) hk)
  have h2 : 2 * (2 ^ 53 * 2 ^ 1100) < (2 ^ 54 - 1) * 2 ^ 2045 := by decide +kernel
  omega
theorem dist_self' (a : Nat) : dist a a = 0 := by unfold dist; omega
theorem dist_zero {a b : Nat} (h : dist a b = 0) : a = b := by unfold dist at h; omega
theorem At.of_right {r : UInt64} {neg : Bool} {N k : Nat} (hN : N ≤ 2 ^ 53) (hk : k ≤ 1100) (hk0 : 100 ≤ k) (h : Right r neg (N * 2 ^ k) 1) : At r neg (N * 2 ^ k) := by
  obtain ⟨t, e, hle, hov, hn⟩ := h
  have hlt : t < infMag := by
    refine Nat.lt_of_le_of_ne hle fun q => ?_
    have := hov.mp q
    have := small_lt hN hk
    omega
  obtain ⟨t', _, hv'⟩ := rep hN hk hk0
  have := (hn hlt t').1
  rw [hv', Nat.one_mul, Nat.one_mul, dist_self'] at this
  exact ⟨t, e, hlt, (dist_zero (Nat.le_zero.mp this)).symm⟩

/-- the float n/2 -/
def hf (n : Int) : UInt64 := ofFrac (decide (n < 0)) n.natAbs 2
theorem hf_at {n : Int} (h : n.natAbs ≤ 2 ^ 53) : At (hf n) (decide (n < 0)) (n.natAbs * 2 ^ 1073) := by
  refine At.of_right h (by decide) (by decide) (ofFrac_right (by decide) ?_ (by decide))
  rw [show (2 : Nat) ^ 1074 = 2 ^ 1073 * 2 from Nat.pow_succ ..]
  ac_rfl
theorem hf_of_at {r : UInt64} {n : Int} (h : n.natAbs ≤ 2 ^ 53) (hr : At r (decide (n < 0)) (n.natAbs * 2 ^ 1073)) : r = hf n := hr.unique (hf_at h)
theorem ofInt_hf {b : Int} (h : b.natAbs ≤ 2 ^ 52) : ofInt b = hf (2 * b) := by
  have e : (2 * b).natAbs = 2 * b.natAbs := by omega
  have hb : (2 * b).natAbs ≤ 2 ^ 53 := by omega
  refine hf_of_at hb ?_
  have hd : decide (2 * b < 0) = decide (b < 0) := by
    by_cases q : b < 0
    · rw [decide_eq_true q, decide_eq_true (by omega)]
    · rw [decide_eq_false q, decide_eq_false (by omega)]
  rw [hd, e]
  have w : 2 * b.natAbs * 2 ^ 1073 = b.natAbs * 2 ^ 1074 := by
    rw [show (2 : Nat) ^ 1074 = 2 ^ 1073 * 2 from Nat.pow_succ ..]; ac_rfl
  rw [w]
  exact At.of_right (by omega) (by decide) (by decide) (ofInt_right b)
theorem sgn_dec (n : Int) (k : Nat) : sgn (decide (n < 0)) (n.natAbs * k) = n * (k : Int) := by
  rw [sgn_mul]
  congr 1
  unfold sgn
  by_cases q : n < 0
  · rw [decide_eq_true q]; simp only [if_true]; omega
  · rw [decide_eq_false q]; simp only [Bool.false_eq_true, if_false]; omega
theorem hf_val {n : Int} (h : n.natAbs ≤ 2 ^ 53) : ∃ m e, decode (hf n) = .fin (decide (n < 0)) m e ∧ val (hf n) = n * ((2 ^ 1073 : Nat) : Int) := by
  obtain ⟨m, e, hd, hv⟩ := (hf_at h).decode
  exact ⟨m, e, hd, by rw [hv, sgn_dec]⟩
theorem big_pos : (0 : Int) < ((2 ^ 1073 : Nat) : Int) := Int.ofNat_lt.mpr (Nat.two_pow_pos _)
theorem mul_neg_iff {n K : Int} (hK : 0 < K) : decide (n * K < 0) = decide (n < 0) := by
  by_cases q : n < 0
  · rw [decide_eq_true q, decide_eq_true (Int.mul_neg_of_neg_of_pos q hK)]
  · rw [decide_eq_false q, decide_eq_false (Int.not_lt.mpr (Int.mul_nonneg (Int.not_lt.mp q) (Int.le_of_lt hK)))]
theorem zero_hf : zero false = hf 0 := by
  refine hf_of_at (by decide) ?_
  exact ⟨0, by decide, by decide, by rw [V_zero]; simp⟩
theorem hf_add {a b : Int} (ha : a.natAbs ≤ 2 ^ 53) (hb : b.natAbs ≤ 2 ^ 53) (h : (a + b).natAbs ≤ 2 ^ 53) : add (hf a) (hf b) = hf (a + b) := by
  obtain ⟨m, e, hd, hv⟩ := hf_val ha
  obtain ⟨k, f, hd', hv'⟩ := hf_val hb
  have hr := add_right hd hd'
  have hs : val (hf a) + val (hf b) = (a + b) * ((2 ^ 1073 : Nat) : Int) := by rw [hv, hv', Int.add_mul]
  have hp := big_pos
  by_cases hz : a + b = 0
  · rw [hr.1 (by rw [hs, hz, Int.zero_mul]), hz, ← zero_hf]
    congr 1
    by_cases q : a < 0
    · rw [decide_eq_true q, decide_eq_false (show ¬ b < 0 by omega)]; rfl
    · rw [decide_eq_false q]; rfl
  · have hne : val (hf a) + val (hf b) ≠ 0 := by
      rw [hs]; exact fun q => (Int.mul_eq_zero.mp q).elim hz (Int.ne_of_gt hp)
    have hR := hr.2 hne
    rw [hs, mul_neg_iff hp, Int.natAbs_mul, Int.natAbs_natCast] at hR
    exact hf_of_at h (At.of_right h (by decide) (by decide) hR)
theorem hf_sub {a b : Int} (ha : a.natAbs ≤ 2 ^ 53) (hb : b.natAbs ≤ 2 ^ 53) (h : (a - b).natAbs ≤ 2 ^ 53) : sub (hf a) (hf b) = hf (a - b) := by
  obtain ⟨m, e, hd, hv⟩ := hf_val ha
  obtain ⟨k, f, hd', hv'⟩ := hf_val hb
  have hr := sub_right hd hd'
  have hs : val (hf a) - val (hf b) = (a - b) * ((2 ^ 1073 : Nat) : Int) := by rw [hv, hv', Int.sub_mul]
  have hp := big_pos
  by_cases hz : a - b = 0
  · rw [hr.1 (by rw [hs, hz, Int.zero_mul]), hz, ← zero_hf]
    congr 1
    have : a = b := by omega
    subst this
    by_cases q : a < 0
    · rw [decide_eq_true q]; rfl
    · rw [decide_eq_false q]; rfl
  · have hne : val (hf a) - val (hf b) ≠ 0 := by
      rw [hs]; exact fun q => (Int.mul_eq_zero.mp q).elim hz (Int.ne_of_gt hp)
    have hR := hr.2 hne
    rw [hs, mul_neg_iff hp, Int.natAbs_mul, Int.natAbs_natCast] at hR
    exact hf_of_at h (At.of_right h (by decide) (by decide) hR)
theorem pow_1074 : (2 : Int) ^ 1074 = ((2 ^ 1073 : Nat) : Int) * 2 := by
  rw [show (1074 : Nat) = 1073 + 1 from rfl, Int.pow_succ]; simp
theorem hf_cmpInt {n i : Int} (h : n.natAbs ≤ 2 ^ 53) : cmpInt (hf n) i = some (compare n (2 * i)) := by
  obtain ⟨m, e, hd, hv⟩ := hf_val h
  rw [cmpInt_right hd, hv, pow_1074]
  congr 1
  have hp := big_pos
  generalize ((2 ^ 1073 : Nat) : Int) = K at *
  have e2 : i * (K * 2) = 2 * i * K := by rw [Int.mul_comm K 2, ← Int.mul_assoc, Int.mul_comm i 2]
  rw [e2]
  rcases Int.lt_trichotomy n (2 * i) with q | q | q
  · rw [Int.compare_eq_lt.mpr q, Int.compare_eq_lt.mpr (Int.mul_lt_mul_of_pos_right q hp)]
  · rw [q]; simp
  · rw [Int.compare_eq_gt.mpr q, Int.compare_eq_gt.mpr (Int.mul_lt_mul_of_pos_right q hp)]

/-- the floor of a float is the floor of its size -/
theorem floorOf_val {x : UInt64} {neg : Bool} {m : Nat} {e : Int} (h : decode x = .fin neg m e) : floorOf neg m e = val x / (2 : Int) ^ 1074 := by
  have he := decode_ge h
  have hpow : ∀ n : Nat, ((2 ^ n : Nat) : Int) = (2 : Int) ^ n := fun n => by simp
  have hpos : ∀ n : Nat, (0 : Int) < (2 : Int) ^ n := fun n => by rw [← hpow]; exact Int.ofNat_lt.mpr (Nat.two_pow_pos _)
  have hv : val x = sgn neg m * (2 : Int) ^ (e + 1074).toNat := by rw [val_eq h, sgn_mul, hpow]
  unfold floorOf
  split
  · rename_i q
    have e1 : (e + 1074).toNat = e.toNat + 1074 := by omega
    rw [hv, e1, Int.pow_add, ← Int.mul_assoc, Int.mul_ediv_cancel _ (Int.ne_of_gt (hpos 1074))]
  · rename_i q
    have e1 : (1074 : Nat) = (-e).toNat + (e + 1074).toNat := by omega
    rw [Int.fdiv_eq_ediv_of_nonneg _ (Int.le_of_lt (hpos _)), hv]
    conv => rhs; rw [e1, Int.pow_add]
    rw [Int.mul_ediv_mul_of_pos_left _ _ (hpos _)]
theorem hf_trunc {n : Int} (h : n.natAbs ≤ 2 ^ 53) (h0 : 0 ≤ n) : ∃ m e, decode (hf n) = .fin false m e ∧ truncOf false m e = n / 2 := by
  obtain ⟨m, e, hd, hv⟩ := hf_val h
  rw [decide_eq_false (by omega)] at hd
  refine ⟨m, e, hd, ?_⟩
  have : truncOf false m e = floorOf false m e := rfl
  rw [this, floorOf_val hd, hv, pow_1074, Int.mul_comm n, Int.mul_ediv_mul_of_pos _ _ big_pos]

/-- a size below a float's is rounded to none above it -/
theorem round_le {n d t : Nat} (hd : 0 < d) (hov : roundMag n d < infMag) (h : n * 2 ^ 1074 ≤ d * V t) : V (roundMag n d) ≤ V t := by
  have hc := (roundMag_right hd hov t).1
  generalize n * 2 ^ 1074 = X at *
  by_cases q : V (roundMag n d) ≤ V t
  · exact q
  · have : d * (V t + 1) ≤ d * V (roundMag n d) := Nat.mul_le_mul_left _ (by omega)
    rw [Nat.mul_add, Nat.mul_one] at this
    unfold dist at hc
    omega
theorem round_ge {n d t : Nat} (hd : 0 < d) (hov : roundMag n d < infMag) (h : d * V t ≤ n * 2 ^ 1074) : V t ≤ V (roundMag n d) := by
  have hc := (roundMag_right hd hov t).1
  generalize n * 2 ^ 1074 = X at *
  by_cases q : V t ≤ V (roundMag n d)
  · exact q
  · have : d * (V (roundMag n d) + 1) ≤ d * V t := Nat.mul_le_mul_left _ (by omega)
    rw [Nat.mul_add, Nat.mul_one] at this
    unfold dist at hc
    omega
theorem round_in {n d : Nat} (hd : 0 < d) (hn : n ≤ 2 ^ 60) : roundMag n d < infMag := by
  refine Nat.lt_of_le_of_ne (by rw [roundMag_min]; omega) fun q => ?_
  have := (roundMag_over hd).mp q
  have h1 : 2 * (n * 2 ^ 1074) ≤ 2 * (2 ^ 60 * 2 ^ 1074) := Nat.mul_le_mul_left _ (Nat.mul_le_mul_right _ hn)
  have h2 : 2 * (2 ^ 60 * 2 ^ 1074) < (2 ^ 54 - 1) * 2 ^ 2045 := by decide +kernel
  have h3 : (2 ^ 54 - 1) * 2 ^ 2045 ≤ d * ((2 ^ 54 - 1) * 2 ^ 2045) := Nat.le_mul_of_pos_left _ hd
  omega
theorem pow_split : (2 : Nat) ^ 1074 = 2 ^ 15 * 2 ^ 1059 := by rw [← Nat.pow_add]
theorem round_floor {n d : Nat} (hd : 0 < d) (hd2 : d ≤ 2 ^ 15) (hn : n ≤ 2 ^ 60) (hq : n / d < 2 ^ 37) : V (roundMag n d) / 2 ^ 1074 = n / d := by
  have hov := round_in hd hn
  have hm := Nat.div_add_mod n d
  have hr := Nat.mod_lt n hd
  generalize hQ : n / d = q at *
  generalize n % d = r at *
  have hK : 0 < (2 : Nat) ^ 1059 := Nat.two_pow_pos _
  -- below: q is a float
  obtain ⟨t, _, ht⟩ := rep (N := q * 2 ^ 15) (k := 1059) (by omega) (by decide) (by decide)
  have h1 : V t ≤ V (roundMag n d) := by
    refine round_ge hd hov ?_
    rw [ht, pow_split]
    have : d * (q * 2 ^ 15) ≤ n * 2 ^ 15 := by rw [← Nat.mul_assoc]; exact Nat.mul_le_mul_right _ (by omega)
    calc d * (q * 2 ^ 15 * 2 ^ 1059) = d * (q * 2 ^ 15) * 2 ^ 1059 := by ac_rfl
      _ ≤ n * 2 ^ 15 * 2 ^ 1059 := Nat.mul_le_mul_right _ this
      _ = n * (2 ^ 15 * 2 ^ 1059) := by ac_rfl
  -- above: q + 1 less 2^-15 is a float
  obtain ⟨u, _, hu⟩ := rep (N := q * 2 ^ 15 + (2 ^ 15 - 1)) (k := 1059) (by omega) (by decide) (by decide)
  have h2 : V (roundMag n d) ≤ V u := by
    refine round_le hd hov ?_
    rw [hu, pow_split]
    have h3 : n * 2 ^ 15 ≤ d * (q * 2 ^ 15 + (2 ^ 15 - 1)) := by
      have e1 : d * (q * 2 ^ 15 + (2 ^ 15 - 1)) = (d * q) * 2 ^ 15 + d * (2 ^ 15 - 1) := by rw [Nat.mul_add]; congr 1; rw [Nat.mul_assoc]
      rw [e1, ← hm, Nat.add_mul]
      omega
    calc n * (2 ^ 15 * 2 ^ 1059) = n * 2 ^ 15 * 2 ^ 1059 := by ac_rfl
      _ ≤ d * (q * 2 ^ 15 + (2 ^ 15 - 1)) * 2 ^ 1059 := Nat.mul_le_mul_right _ h3
      _ = d * ((q * 2 ^ 15 + (2 ^ 15 - 1)) * 2 ^ 1059) := by ac_rfl
  rw [ht] at h1
  rw [hu] at h2
  have p : (2 : Nat) ^ 1074 = 2 ^ 15 * 2 ^ 1059 := pow_split
  refine Nat.div_eq_of_lt_le ?_ ?_
  · rw [p]; calc q * (2 ^ 15 * 2 ^ 1059) = q * 2 ^ 15 * 2 ^ 1059 := by ac_rfl
      _ ≤ _ := h1
  · refine Nat.lt_of_le_of_lt h2 ?_
    rw [p]
    calc (q * 2 ^ 15 + (2 ^ 15 - 1)) * 2 ^ 1059 < (q * 2 ^ 15 + 2 ^ 15) * 2 ^ 1059 := Nat.mul_lt_mul_of_pos_right (by omega) hK
      _ = (q + 1) * (2 ^ 15 * 2 ^ 1059) := by rw [← Nat.succ_mul]; ac_rfl
/-- and the ceiling -/
theorem round_ceil {n d : Nat} (hd : 0 < d) (hd2 : d ≤ 2 ^ 15) (hn : n ≤ 2 ^ 60) (hn0 : 0 < n) (hq : n / d < 2 ^ 37) : (V (roundMag n d) + (2 ^ 1074 - 1)) / 2 ^ 1074 = (n + (d - 1)) / d := by
  have hov := round_in hd hn
  -- c = the ceiling; c - 1 < n/d ≤ c
  have hm := Nat.div_add_mod (n + (d - 1)) d
  have hr := Nat.mod_lt (n + (d - 1)) hd
  have hc37 : (n + (d - 1)) / d ≤ 2 ^ 37 := by
    have : (n + (d - 1)) / d ≤ n / d + 1 := by
      rw [show n / d + 1 = (n + d) / d from (Nat.add_div_right n hd).symm]
      exact Nat.div_le_div_right (by omega)
    omega
  have hc0 : 0 < (n + (d - 1)) / d := Nat.div_pos (by omega) hd
  generalize (n + (d - 1)) / d = c at *
  generalize (n + (d - 1)) % d = r at *
  have hK : 0 < (2 : Nat) ^ 1059 := Nat.two_pow_pos _
  have p : (2 : Nat) ^ 1074 = 2 ^ 15 * 2 ^ 1059 := pow_split
  obtain ⟨c', rfl⟩ : ∃ c', c = c' + 1 := ⟨c - 1, by omega⟩
  rw [Nat.mul_add, Nat.mul_one] at hm
  obtain ⟨u, _, hu⟩ := rep (N := (c' + 1) * 2 ^ 15) (k := 1059) (by omega) (by decide) (by decide)
  have h2 : V (roundMag n d) ≤ V u := by
    refine round_le hd hov ?_
    rw [hu, pow_split]
    have h3 : n * 2 ^ 15 ≤ d * ((c' + 1) * 2 ^ 15) := by
      rw [← Nat.mul_assoc]
      refine Nat.mul_le_mul_right _ ?_
      rw [Nat.mul_add, Nat.mul_one]; omega
    calc n * (2 ^ 15 * 2 ^ 1059) = n * 2 ^ 15 * 2 ^ 1059 := by ac_rfl
      _ ≤ d * ((c' + 1) * 2 ^ 15) * 2 ^ 1059 := Nat.mul_le_mul_right _ h3
      _ = d * ((c' + 1) * 2 ^ 15 * 2 ^ 1059) := by ac_rfl
  obtain ⟨t, _, ht⟩ := rep (N := c' * 2 ^ 15 + 1) (k := 1059) (by omega) (by decide) (by decide)
  have h1 : V t ≤ V (roundMag n d) := by
    refine round_ge hd hov ?_
    rw [ht, pow_split]
    have h3 : d * (c' * 2 ^ 15 + 1) ≤ n * 2 ^ 15 := by
      have e1 : d * (c' * 2 ^ 15 + 1) = (d * c') * 2 ^ 15 + d := by rw [Nat.mul_add, Nat.mul_one]; congr 1; rw [Nat.mul_assoc]
      rw [e1]
      omega
    calc d * ((c' * 2 ^ 15 + 1) * 2 ^ 1059) = d * (c' * 2 ^ 15 + 1) * 2 ^ 1059 := by ac_rfl
      _ ≤ n * 2 ^ 15 * 2 ^ 1059 := Nat.mul_le_mul_right _ h3
      _ = n * (2 ^ 15 * 2 ^ 1059) := by ac_rfl
  rw [hu] at h2
  rw [ht] at h1
  have h4 : c' * (2 ^ 15 * 2 ^ 1059) + 1 ≤ V (roundMag n d) := by
    refine Nat.le_trans ?_ h1
    rw [Nat.add_mul, Nat.one_mul]
    have : c' * (2 ^ 15 * 2 ^ 1059) = c' * 2 ^ 15 * 2 ^ 1059 := by ac_rfl
    omega
  have h5 : V (roundMag n d) ≤ (c' + 1) * (2 ^ 15 * 2 ^ 1059) := by
    refine Nat.le_trans h2 (Nat.le_of_eq ?_)
    ac_rfl
  rw [← p] at h4 h5
  generalize (2 : Nat) ^ 1074 = M at *
  have hM : 0 < M := by rw [p]; exact Nat.mul_pos (by decide) hK
  refine Nat.div_eq_of_lt_le ?_ ?_
  · rw [Nat.add_mul, Nat.one_mul]; omega
  · rw [show c' + 1 + 1 = (c' + 1) + 1 from rfl, Nat.add_mul (c' + 1) 1 M, Nat.one_mul]; omega
theorem neg_ediv_nat (a b : Nat) (hb : 0 < b) : (-(a : Int)) / (b : Int) = -(((a + (b - 1)) / b : Nat) : Int) := by
  have hm := Nat.div_add_mod (a + (b - 1)) b
  have hr := Nat.mod_lt (a + (b - 1)) hb
  generalize (a + (b - 1)) / b = q at *
  generalize (a + (b - 1)) % b = r at *
  have hq : (b : Int) * (q : Int) + r = a + (b - 1 : Int) := by
    have := congrArg (Nat.cast (R := Int)) hm
    push_cast at this
    rw [Int.natCast_sub (by omega)] at this
    simpa using this
  have h1 : (-(a : Int)) = (b : Int) * (-(q : Int)) + ((b : Int) - 1 - r) := by rw [Int.mul_neg]; omega
  rw [h1, Int.mul_add_ediv_left _ _ (by omega), Int.ediv_eq_zero_of_lt (by omega) (by omega), Int.add_zero]
/-- a / b, as Python's true division of ints makes it -/
def qf (a b : Int) : UInt64 := ofFrac (decide (a < 0) != decide (b < 0)) a.natAbs b.natAbs
theorem qf_floor {a b : Int} (hb : 0 < b) (hb2 : b ≤ 2 ^ 15) (h1 : -(2 ^ 50) ≤ a) (h2 : a ≤ 2 ^ 50) (hq1 : -(2 ^ 36) * b ≤ a) (hq2 : a ≤ 2 ^ 36 * b) : ∃ s m e, decode (qf a b) = .fin s m e ∧ floorOf s m e = a / b := by
  obtain ⟨d, rfl⟩ : ∃ d : Nat, b = (d : Int) := ⟨b.toNat, by omega⟩
  have hd : 0 < d := by omega
  have hs : (decide (a < 0) != decide ((d : Int) < 0)) = decide (a < 0) := by rw [decide_eq_false (show ¬ (d : Int) < 0 by omega)]; simp
  have hnd : a.natAbs ≤ 2 ^ 60 := by omega
  have hqd : a.natAbs / d < 2 ^ 37 := by
    refine Nat.div_lt_of_lt_mul ?_
    have h3 : a.natAbs ≤ 2 ^ 36 * d := by omega
    have h4 : d * 2 ^ 37 = 2 * (2 ^ 36 * d) := by rw [show (2 : Nat) ^ 37 = 2 * 2 ^ 36 from rfl]; ac_rfl
    have h5 : 0 < 2 ^ 36 * d := Nat.mul_pos (by decide) hd
    omega
  have hov := round_in hd hnd
  obtain ⟨m, e, hdec, hV⟩ := decode_pack (decide (a < 0)) hov
  have hx : qf a d = pack (decide (a < 0)) (roundMag a.natAbs d) := by unfold qf ofFrac; rw [hs]; rfl
  refine ⟨_, m, e, by rw [hx]; exact hdec, ?_⟩
  rw [floorOf_val hdec, val_pack _ hov]
  have hpow : ((2 ^ 1074 : Nat) : Int) = (2 : Int) ^ 1074 := by simp
  rw [← hpow]
  by_cases q : a < 0
  · rw [decide_eq_true q]
    have hn0 : 0 < a.natAbs := by omega
    have hc := round_ceil hd (by omega) hnd hn0 hqd
    have ea : a = -(a.natAbs : Int) := by omega
    have : sgn true (V (roundMag a.natAbs d)) = -((V (roundMag a.natAbs d) : Nat) : Int) := rfl
    rw [this, neg_ediv_nat _ _ (Nat.two_pow_pos _), hc]
    conv => rhs; rw [ea]
    rw [neg_ediv_nat _ _ hd]
  · rw [decide_eq_false q]
    have hf := round_floor hd (by omega) hnd hqd
    have ea : a = (a.natAbs : Int) := by omega
    have : sgn false (V (roundMag a.natAbs d)) = ((V (roundMag a.natAbs d) : Nat) : Int) := rfl
    rw [this, ← Int.natCast_ediv, hf]
    conv => rhs; rw [ea]
    rw [Int.natCast_ediv]
end Heb


/-! ## HebRules -/
namespace Heb
open PySem.Float64
section
variable {prog : Program} {w : World} {A : Around} {E : Value → Shared → Prop} {s : Shared} {t u : Tok} {Q : Value → Shared → Prop}
theorem notInf_of {x : UInt64} {sg : Bool} {m : Nat} {e : Int} (h : decode x = .fin sg m e) : ¬ isInf x = true := by unfold isInf; rw [h]; simp
theorem w_trueDiv {a b : Int} (hb : 0 < b) (hb2 : b ≤ 2 ^ 15) (h1 : -(2 ^ 50) ≤ a) (h2 : a ≤ 2 ^ 50) (hq1 : -(2 ^ 36) * b ≤ a) (hq2 : a ≤ 2 ^ 36 * b) (h : Q (.float (qf a b) s.toks) { s with toks := s.toks + 1 }) :
    wpAny (model prog w) A (binaryOp .Div (.int a t) (.int b u)) Q E s := by
  obtain ⟨sg, m, e, hd, _⟩ := qf_floor hb hb2 h1 h2 hq1 hq2
  exact AutoIntOps.truediv_2 (by simp; omega) (notInf_of hd) h
theorem w_floor {a b : Int} (hb : 0 < b) (hb2 : b ≤ 2 ^ 15) (h1 : -(2 ^ 50) ≤ a) (h2 : a ≤ 2 ^ 50) (hq1 : -(2 ^ 36) * b ≤ a) (hq2 : a ≤ 2 ^ 36 * b) (h : Q (.int (a / b) s.toks) { s with toks := s.toks + 1 }) :
    wpAny (model prog w) A (call (.builtin "math.floor") [.float (qf a b) t]) Q E s := by
  obtain ⟨sg, m, e, hd, hf⟩ := qf_floor hb hb2 h1 h2 hq1 hq2
  refine Flt.call_fn_gives Flt.kind_floor Flt.plain_floor Flt.entry_floor (Flt.args_floor _) (Flt.gives_mfloor t hd) ?_
  rw [hf]; exact h
theorem ofInt_fin {b : Int} (h : b.natAbs ≤ 2 ^ 52) : ¬ isInf (ofInt b) = true := by
  rw [ofInt_hf h]
  obtain ⟨m, e, hd, _⟩ := hf_val (n := 2 * b) (by omega)
  exact notInf_of hd
theorem w_add_hi {a b : Int} (ha : a.natAbs ≤ 2 ^ 52) (hb : b.natAbs ≤ 2 ^ 50) (h : Q (.float (hf (a + 2 * b)) s.toks) { s with toks := s.toks + 1 }) :
    wpAny (model prog w) A (binaryOp .Add (.float (hf a) t) (.int b u)) Q E s := by
  refine AutoFloatOps.add_fi_1 (ofInt_fin (by omega)) ?_
  rw [ofInt_hf (by omega), hf_add (by omega) (by omega) (by omega)]
  exact h
theorem w_iadd_hi {a b : Int} (ha : a.natAbs ≤ 2 ^ 52) (hb : b.natAbs ≤ 2 ^ 50) (h : Q (.float (hf (a + 2 * b)) s.toks) { s with toks := s.toks + 1 }) :
    wpAny (model prog w) A (inplaceOp .Add (.float (hf a) t) (.int b u)) Q E s := by
  refine Flt.iadd_fi_1 (ofInt_fin (by omega)) ?_
  rw [ofInt_hf (by omega), hf_add (by omega) (by omega) (by omega)]
  exact h
theorem epoch_hf : (0x41153d6e00000000 : UInt64) = hf 695991 := by decide +kernel
theorem half_hf : (0x3fe0000000000000 : UInt64) = hf 1 := by decide +kernel
theorem w_add_epoch {b : Int} (hb : b.natAbs ≤ 2 ^ 50) (h : Q (.float (hf (695991 + 2 * b)) s.toks) { s with toks := s.toks + 1 }) :
    wpAny (model prog w) A (binaryOp .Add (.float 0x41153d6e00000000 t) (.int b u)) Q E s := by
  rw [epoch_hf]; exact w_add_hi (by omega) hb h
theorem w_int {n : Int} (h0 : 0 ≤ n) (hn : n ≤ 2 ^ 53) (h : Q (.int (n / 2) s.toks) { s with toks := s.toks + 1 }) :
    wpAny (model prog w) A (call (.type "int") [.float (hf n) t]) Q E s := by
  obtain ⟨m, e, hd, hv⟩ := hf_trunc (n := n) (by omega) h0
  refine call_int_float hd ?_
  rw [hv]; exact h
theorem w_int_half {k : Int} (hk : k.natAbs ≤ 2 ^ 50) (h : Q (.float (hf (2 * k + 1)) s.toks) { s with toks := s.toks + 1 }) :
    wpAny (model prog w) A (binaryOp .Add (.int k t) (.float 0x3fe0000000000000 u)) Q E s := by
  refine AutoFloatOps.add_if_1 (ofInt_fin (by omega)) ?_
  rw [half_hf, ofInt_hf (by omega), hf_add (by omega) (by omega) (by omega)]
  exact h
theorem w_hf_half {a : Int} (ha : a.natAbs ≤ 2 ^ 52) (h : Q (.float (hf (a + 1)) s.toks) { s with toks := s.toks + 1 }) :
    wpAny (model prog w) A (binaryOp .Add (.float (hf a) t) (.float 0x3fe0000000000000 u)) Q E s := by
  refine AutoFloatOps.add_0 ?_
  rw [half_hf, hf_add (by omega) (by omega) (by omega)]
  exact h
theorem w_hf_sub {a b : Int} (ha : a.natAbs ≤ 2 ^ 51) (hb : b.natAbs ≤ 2 ^ 51) (h : Q (.float (hf (a - b)) s.toks) { s with toks := s.toks + 1 }) :
    wpAny (model prog w) A (binaryOp .Sub (.float (hf a) t) (.float (hf b) u)) Q E s := by
  refine AutoFloatOps.sub_0 ?_
  rw [hf_sub (by omega) (by omega) (by omega)]
  exact h
theorem cmp_eq {n i : Int} (h : n.natAbs ≤ 2 ^ 53) : (cmpInt (hf n) i == some Ordering.eq) = decide (n = 2 * i) := by
  rw [hf_cmpInt h]
  rcases Int.lt_trichotomy n (2 * i) with q | q | q
  · rw [Int.compare_eq_lt.mpr q, decide_eq_false (by omega)]; rfl
  · rw [q, decide_eq_true rfl]; simp
  · rw [Int.compare_eq_gt.mpr q, decide_eq_false (by omega)]; rfl
theorem w_hf_ne {n i : Int} (hn : n.natAbs ≤ 2 ^ 53) (h : Q (.bool (decide (n ≠ 2 * i))) s) : wpAny (model prog w) A (compareOp .NotEq (.float (hf n) t) (.int i u)) Q E s := by
  refine ne_fi ?_
  have : (cmpInt (hf n) i != some Ordering.eq) = decide (n ≠ 2 * i) := by
    show (!(cmpInt (hf n) i == some Ordering.eq)) = _
    rw [cmp_eq hn]; simp
  rw [this]; exact h
theorem w_hf_eq {n i : Int} (hn : n.natAbs ≤ 2 ^ 53) (h : Q (.bool (decide (n = 2 * i))) s) : wpAny (model prog w) A (compareOp .Eq (.float (hf n) t) (.int i u)) Q E s := by
  refine eq_fi ?_
  rw [cmp_eq hn]; exact h
/-- the six lengths of a year -/
def Len (d : Int) : Prop := d = 353 ∨ d = 354 ∨ d = 355 ∨ d = 383 ∨ d = 384 ∨ d = 385
theorem mod_len {d : Int} (hd : Len d) : (divmod (hf (2 * d)) (ofInt 10)).2 = hf (2 * (d % 10)) := by
  rcases hd with rfl | rfl | rfl | rfl | rfl | rfl <;> decide +kernel
theorem w_hf_mod {d : Int} (hd : Len d) (h : Q (.float (hf (2 * (d % 10))) s.toks) { s with toks := s.toks + 1 }) :
    wpAny (model prog w) A (binaryOp .Mod (.float (hf (2 * d)) t) (.int 10 u)) Q E s := by
  refine AutoFloatOps.mod_fi_2 (by decide +kernel) (by decide +kernel) ?_
  rw [mod_len hd]
  exact h
end
end Heb


/-! ## HebPure -/
namespace Heb
def mon (y : Int) : Int := (235 * y - 234) / 19
def dpre (y : Int) : Int := mon y * 29 + (12084 + 13753 * mon y) / 25920
def D1 (y : Int) : Int := if 3 * (dpre y + 1) % 7 < 3 then dpre y + 1 else dpre y
def D2 (y : Int) : Int := if D1 (y + 1) - D1 y = 356 then 2 else if D1 y - D1 (y - 1) = 382 then 1 else 0
/-- to_jd(y, 7, 1) is T1 y + 347997.5 -/
def T1 (y : Int) : Int := D1 y + D2 y
def YD (y : Int) : Int := T1 (y + 1) - T1 y
abbrev leapP (y : Int) : Prop := (y * 7 + 1) % 19 < 7
def YM (y : Int) : Int := if leapP y then 13 else 12
def ML (y m : Int) : Int :=
  if m = 2 ∨ m = 4 ∨ m = 6 ∨ m = 10 ∨ m = 13 then 29
  else if m = 12 ∧ ¬ leapP y then 29
  else if m = 8 ∧ YD y % 10 ≠ 5 then 29
  else if m = 9 ∧ YD y % 10 = 3 then 29 else 30
theorem D1_bounds {y : Int} (h0 : -10000 ≤ y) (h1 : y ≤ 2000000000) : -3700000 ≤ D1 y ∧ D1 y ≤ 740000000000 := by
  unfold D1 dpre mon
  split <;> omega
end Heb
namespace Heb
/-- the days of n months from month a on -/
def msum (y a : Int) : Nat → Int
  | 0 => 0
  | n + 1 => msum y a n + ML y (a + n)
def OFF (y m : Int) : Int := if m < 7 then msum y 7 (YM y - 6).toNat + msum y 1 (m - 1).toNat else msum y 7 (m - 7).toNat
/-- to_jd(y, m, d) is JD y m d + 0.5 -/
def JD (y m d : Int) : Int := T1 y + 347996 + d + OFF y m
theorem d1_up {y : Int} (h : (3 * ((235 * y - 234) / 19 * 29 + (12084 + 13753 * ((235 * y - 234) / 19)) / 25920 + 1)).fmod 7 < 3) :
    (235 * y - 234) / 19 * 29 + (12084 + 13753 * ((235 * y - 234) / 19)) / 25920 + 1 = D1 y := by
  rw [Int.fmod_eq_emod_of_nonneg _ (by decide)] at h
  unfold D1 dpre mon
  rw [if_pos h]
theorem d1_no {y : Int} (h : ¬ (3 * ((235 * y - 234) / 19 * 29 + (12084 + 13753 * ((235 * y - 234) / 19)) / 25920 + 1)).fmod 7 < 3) :
    (235 * y - 234) / 19 * 29 + (12084 + 13753 * ((235 * y - 234) / 19)) / 25920 = D1 y := by
  rw [Int.fmod_eq_emod_of_nonneg _ (by decide)] at h
  unfold D1 dpre mon
  rw [if_neg h]
theorem leap_eq {y : Int} : decide ((y * 7 + 1).fmod 19 < 7) = decide (leapP y) := by
  rw [Int.fmod_eq_emod_of_nonneg _ (by decide)]
theorem D2_bounds (y : Int) : 0 ≤ D2 y ∧ D2 y ≤ 2 := by unfold D2; split <;> (try split) <;> omega
theorem D1_low {y : Int} (h0 : -900 ≤ y) : -347900 ≤ D1 y := by
  unfold D1 dpre mon
  split <;> omega
end Heb


/-! ## HebDuties -/
namespace Heb
/-- what a def of the text hands back, wherever it is called from -/
abbrev Duty (prog : Program) (w : World) (K : Frag) (p : Program) (loose : List Str) (mean : ExcName → Option Value) (mg mb : Str → Option Value) (f : Addr) (dn : Nat) (vs : List Value) (R : Value → Prop) : Prop :=
  ∀ (news : List (Addr × Obj)) (dp un : Nat) (gd : Option (List Code)) (cn : Str) (cs : Scope) (a : Addr) (ccd : Value) (cl : List (Str × Addr)) (outer : List Env) (A₀ : Around) (base h₀ : Heap) (L : Addr) (m : Str → Option Value) (s : Shared) (Q E : Value → Shared → Prop),
    Below A₀ base outer h₀ → Fr h₀ L s.heap m → K.In h₀ → News h₀ L s.heap news → Top p loose mean mg mb h₀ → cs.kind = .function →
    dp + dn < recursionLimit → un + 8 * dn < cLine →
    (∀ (v : Value) (h' : Heap) (tk' : Nat), R v → Fr h₀ L h' m → News h₀ L h' news → Q v { s with heap := h', toks := tk' }) →
      wpAny (model prog w) (ktrTop dp un gd cn cs L a ccd cl outer) (call (.ref f) vs) Q E s

section
variable (prog : Program) (w : World) (K : Frag) (p : Program) (loose : List Str) (mean : ExcName → Option Value) (mg mb : Str → Option Value)
structure DLeap : Prop where
  get : ∀ y ty, Duty prog w K p loose mean mg mb 49 1 [.int y ty] (fun v => v = .bool (decide (leapP y)))
structure DYM : Prop where
  get : ∀ y ty, Duty prog w K p loose mean mg mb 56 2 [.int y ty] (fun v => ∃ t, v = .int (YM y) t)
structure DD1 : Prop where
  get : ∀ y ty, -10000 ≤ y → y ≤ 2000000000 → Duty prog w K p loose mean mg mb 63 1 [.int y ty] (fun v => ∃ t, v = .int (D1 y) t)
structure DD2 : Prop where
  get : ∀ y ty, -9000 ≤ y → y ≤ 1900000000 → Duty prog w K p loose mean mg mb 70 2 [.int y ty] (fun v => ∃ t, v = .int (D2 y) t)
structure DJ7 : Prop where
  get : ∀ y ty t7 t1, -900 ≤ y → y ≤ 1800000000 → Duty prog w K p loose mean mg mb 98 3 [.int y ty, .int 7 t7, .int 1 t1] (fun v => ∃ t, v = .float (hf (2 * (T1 y + 347997) + 1)) t)
structure DYD : Prop where
  get : ∀ y ty, -900 ≤ y → y ≤ 1700000000 → Duty prog w K p loose mean mg mb 77 4 [.int y ty] (fun v => ∃ t, v = .float (hf (2 * YD y)) t)
structure DML : Prop where
  get : ∀ y ty m tm, -900 ≤ y → y ≤ 1700000000 → 1 ≤ m → m ≤ 13 → Duty prog w K p loose mean mg mb 84 5 [.int y ty, .int m tm] (fun v => ∃ t, v = .int (ML y m) t)
structure DMD : Prop where
  get : ∀ y ty m tm, -900 ≤ y → y ≤ 1700000000 → 1 ≤ m → m ≤ 13 → Duty prog w K p loose mean mg mb 91 6 [.int y ty, .int m tm] (fun v => ∃ t, v = .int (ML y m) t)
structure DJD : Prop where
  get : ∀ y ty m tm d td, -900 ≤ y → y ≤ 1700000000 → 1 ≤ m → m ≤ 13 → 1 ≤ d → d ≤ 29 → Duty prog w K p loose mean mg mb 98 7 [.int y ty, .int m tm, .int d td] (fun v => ∃ t, v = .float (hf (2 * JD y m d + 1)) t)
end

section
variable {prog : Program} {w : World} {K : Frag} {p : Program} {loose : List Str} {mean : ExcName → Option Value} {mg mb : Str → Option Value}
  {news : List (Addr × Obj)} {dp un : Nat} {gd : Option (List Code)} {cn : Str} {cs : Scope} {a : Addr} {ccd : Value} {cl : List (Str × Addr)} {outer : List Env} {A₀ : Around} {base h₀ : Heap} {L : Addr} {m : Str → Option Value} {s : Shared} {Q E : Value → Shared → Prop}
  {y mo d : Int} {ty tm td : Tok}
theorem use_leap (D : DLeap prog w K p loose mean mg mb) (B : Below A₀ base outer h₀) (F : Fr h₀ L s.heap m) (X : K.In h₀) (N : News h₀ L s.heap news) (T : Top p loose mean mg mb h₀) (hk : cs.kind = .function)
    (hd : dp + 1 < recursionLimit) (hu : un + 8 * 1 < cLine)
    (ret : ∀ (h' : Heap) (tk' : Nat), Fr h₀ L h' m → News h₀ L h' news → Q (.bool (decide (leapP y))) { s with heap := h', toks := tk' }) :
    wpAny (model prog w) (ktrTop dp un gd cn cs L a ccd cl outer) (call (.ref 49) [.int y ty]) Q E s :=
  D.get y ty _ _ _ _ _ _ _ _ _ _ _ _ _ _ _ _ _ _ B F X N T hk hd hu fun v h' tk' e F' N' => by subst e; exact ret h' tk' F' N'
theorem use_YM (D : DYM prog w K p loose mean mg mb) (B : Below A₀ base outer h₀) (F : Fr h₀ L s.heap m) (X : K.In h₀) (N : News h₀ L s.heap news) (T : Top p loose mean mg mb h₀) (hk : cs.kind = .function)
    (hd : dp + 2 < recursionLimit) (hu : un + 8 * 2 < cLine)
    (ret : ∀ (t : Tok) (h' : Heap) (tk' : Nat), Fr h₀ L h' m → News h₀ L h' news → Q (.int (YM y) t) { s with heap := h', toks := tk' }) :
    wpAny (model prog w) (ktrTop dp un gd cn cs L a ccd cl outer) (call (.ref 56) [.int y ty]) Q E s :=
  D.get y ty _ _ _ _ _ _ _ _ _ _ _ _ _ _ _ _ _ _ B F X N T hk hd hu fun v h' tk' e F' N' => by obtain ⟨t, rfl⟩ := e; exact ret t h' tk' F' N'
theorem use_D1 (D : DD1 prog w K p loose mean mg mb) (B : Below A₀ base outer h₀) (F : Fr h₀ L s.heap m) (X : K.In h₀) (N : News h₀ L s.heap news) (T : Top p loose mean mg mb h₀) (hk : cs.kind = .function)
    (b1 : -10000 ≤ y) (b2 : y ≤ 2000000000) (hd : dp + 1 < recursionLimit) (hu : un + 8 * 1 < cLine)
    (ret : ∀ (t : Tok) (h' : Heap) (tk' : Nat), Fr h₀ L h' m → News h₀ L h' news → Q (.int (D1 y) t) { s with heap := h', toks := tk' }) :
    wpAny (model prog w) (ktrTop dp un gd cn cs L a ccd cl outer) (call (.ref 63) [.int y ty]) Q E s :=
  D.get y ty b1 b2 _ _ _ _ _ _ _ _ _ _ _ _ _ _ _ _ _ _ B F X N T hk hd hu fun v h' tk' e F' N' => by obtain ⟨t, rfl⟩ := e; exact ret t h' tk' F' N'
theorem use_D2 (D : DD2 prog w K p loose mean mg mb) (B : Below A₀ base outer h₀) (F : Fr h₀ L s.heap m) (X : K.In h₀) (N : News h₀ L s.heap news) (T : Top p loose mean mg mb h₀) (hk : cs.kind = .function)
    (b1 : -9000 ≤ y) (b2 : y ≤ 1900000000) (hd : dp + 2 < recursionLimit) (hu : un + 8 * 2 < cLine)
    (ret : ∀ (t : Tok) (h' : Heap) (tk' : Nat), Fr h₀ L h' m → News h₀ L h' news → Q (.int (D2 y) t) { s with heap := h', toks := tk' }) :
    wpAny (model prog w) (ktrTop dp un gd cn cs L a ccd cl outer) (call (.ref 70) [.int y ty]) Q E s :=
  D.get y ty b1 b2 _ _ _ _ _ _ _ _ _ _ _ _ _ _ _ _ _ _ B F X N T hk hd hu fun v h' tk' e F' N' => by obtain ⟨t, rfl⟩ := e; exact ret t h' tk' F' N'
theorem use_J7 {t7 t1 : Tok} (D : DJ7 prog w K p loose mean mg mb) (B : Below A₀ base outer h₀) (F : Fr h₀ L s.heap m) (X : K.In h₀) (N : News h₀ L s.heap news) (T : Top p loose mean mg mb h₀) (hk : cs.kind = .function)
    (b1 : -900 ≤ y) (b2 : y ≤ 1800000000) (hd : dp + 3 < recursionLimit) (hu : un + 8 * 3 < cLine)
    (ret : ∀ (t : Tok) (h' : Heap) (tk' : Nat), Fr h₀ L h' m → News h₀ L h' news → Q (.float (hf (2 * (T1 y + 347997) + 1)) t) { s with heap := h', toks := tk' }) :
    wpAny (model prog w) (ktrTop dp un gd cn cs L a ccd cl outer) (call (.ref 98) [.int y ty, .int 7 t7, .int 1 t1]) Q E s :=
  D.get y ty t7 t1 b1 b2 _ _ _ _ _ _ _ _ _ _ _ _ _ _ _ _ _ _ B F X N T hk hd hu fun v h' tk' e F' N' => by obtain ⟨t, rfl⟩ := e; exact ret t h' tk' F' N'
theorem use_YD (D : DYD prog w K p loose mean mg mb) (B : Below A₀ base outer h₀) (F : Fr h₀ L s.heap m) (X : K.In h₀) (N : News h₀ L s.heap news) (T : Top p loose mean mg mb h₀) (hk : cs.kind = .function)
    (b1 : -900 ≤ y) (b2 : y ≤ 1700000000) (hd : dp + 4 < recursionLimit) (hu : un + 8 * 4 < cLine)
    (ret : ∀ (t : Tok) (h' : Heap) (tk' : Nat), Fr h₀ L h' m → News h₀ L h' news → Q (.float (hf (2 * YD y)) t) { s with heap := h', toks := tk' }) :
    wpAny (model prog w) (ktrTop dp un gd cn cs L a ccd cl outer) (call (.ref 77) [.int y ty]) Q E s :=
  D.get y ty b1 b2 _ _ _ _ _ _ _ _ _ _ _ _ _ _ _ _ _ _ B F X N T hk hd hu fun v h' tk' e F' N' => by obtain ⟨t, rfl⟩ := e; exact ret t h' tk' F' N'
theorem use_ML (D : DML prog w K p loose mean mg mb) (B : Below A₀ base outer h₀) (F : Fr h₀ L s.heap m) (X : K.In h₀) (N : News h₀ L s.heap news) (T : Top p loose mean mg mb h₀) (hk : cs.kind = .function)
    (b1 : -900 ≤ y) (b2 : y ≤ 1700000000) (b3 : 1 ≤ mo) (b4 : mo ≤ 13) (hd : dp + 5 < recursionLimit) (hu : un + 8 * 5 < cLine)
    (ret : ∀ (t : Tok) (h' : Heap) (tk' : Nat), Fr h₀ L h' m → News h₀ L h' news → Q (.int (ML y mo) t) { s with heap := h', toks := tk' }) :
    wpAny (model prog w) (ktrTop dp un gd cn cs L a ccd cl outer) (call (.ref 84) [.int y ty, .int mo tm]) Q E s :=
  D.get y ty mo tm b1 b2 b3 b4 _ _ _ _ _ _ _ _ _ _ _ _ _ _ _ _ _ _ B F X N T hk hd hu fun v h' tk' e F' N' => by obtain ⟨t, rfl⟩ := e; exact ret t h' tk' F' N'
theorem use_MD (D : DMD prog w K p loose mean mg mb) (B : Below A₀ base outer h₀) (F : Fr h₀ L s.heap m) (X : K.In h₀) (N : News h₀ L s.heap news) (T : Top p loose mean mg mb h₀) (hk : cs.kind = .function)
    (b1 : -900 ≤ y) (b2 : y ≤ 1700000000) (b3 : 1 ≤ mo) (b4 : mo ≤ 13) (hd : dp + 6 < recursionLimit) (hu : un + 8 * 6 < cLine)
    (ret : ∀ (t : Tok) (h' : Heap) (tk' : Nat), Fr h₀ L h' m → News h₀ L h' news → Q (.int (ML y mo) t) { s with heap := h', toks := tk' }) :
    wpAny (model prog w) (ktrTop dp un gd cn cs L a ccd cl outer) (call (.ref 91) [.int y ty, .int mo tm]) Q E s :=
  D.get y ty mo tm b1 b2 b3 b4 _ _ _ _ _ _ _ _ _ _ _ _ _ _ _ _ _ _ B F X N T hk hd hu fun v h' tk' e F' N' => by obtain ⟨t, rfl⟩ := e; exact ret t h' tk' F' N'
theorem use_JD (D : DJD prog w K p loose mean mg mb) (B : Below A₀ base outer h₀) (F : Fr h₀ L s.heap m) (X : K.In h₀) (N : News h₀ L s.heap news) (T : Top p loose mean mg mb h₀) (hk : cs.kind = .function)
    (b1 : -900 ≤ y) (b2 : y ≤ 1700000000) (b3 : 1 ≤ mo) (b4 : mo ≤ 13) (b5 : 1 ≤ d) (b6 : d ≤ 29) (hd : dp + 7 < recursionLimit) (hu : un + 8 * 7 < cLine)
    (ret : ∀ (t : Tok) (h' : Heap) (tk' : Nat), Fr h₀ L h' m → News h₀ L h' news → Q (.float (hf (2 * JD y mo d + 1)) t) { s with heap := h', toks := tk' }) :
    wpAny (model prog w) (ktrTop dp un gd cn cs L a ccd cl outer) (call (.ref 98) [.int y ty, .int mo tm, .int d td]) Q E s :=
  D.get y ty mo tm d td b1 b2 b3 b4 b5 b6 _ _ _ _ _ _ _ _ _ _ _ _ _ _ _ _ _ _ B F X N T hk hd hu fun v h' tk' e F' N' => by obtain ⟨t, rfl⟩ := e; exact ret t h' tk' F' N'
end
end Heb


/-! ## HebEnds -/
namespace Heb
theorem heb_endI {h₀ h' : Heap} {L : Addr} {m : Str → Option Value} {news : List (Addr × Obj)} {s : Shared} {Q : Value → Shared → Prop} {n x : Int} {t : Tok} {tk' : Nat}
    (hret : ∀ (v : Value) (h' : Heap) (tk' : Nat), (∃ t, v = .int n t) → Fr h₀ L h' m → News h₀ L h' news → Q v { s with heap := h', toks := tk' })
    (e : x = n) (F : Fr h₀ L h' m) (N : News h₀ L h' news) : Q (.int x t) { s with heap := h', toks := tk' } := hret _ h' tk' ⟨t, by rw [e]⟩ F N
theorem heb_endF {h₀ h' : Heap} {L : Addr} {m : Str → Option Value} {news : List (Addr × Obj)} {s : Shared} {Q : Value → Shared → Prop} {n x : Int} {t : Tok} {tk' : Nat}
    (hret : ∀ (v : Value) (h' : Heap) (tk' : Nat), (∃ t, v = .float (hf n) t) → Fr h₀ L h' m → News h₀ L h' news → Q v { s with heap := h', toks := tk' })
    (e : x = n) (F : Fr h₀ L h' m) (N : News h₀ L h' news) : Q (.float (hf x) t) { s with heap := h', toks := tk' } := hret _ h' tk' ⟨t, by rw [e]⟩ F N
theorem ym_a {y : Int} (h : leapP y) : 13 = YM y := by unfold YM; rw [if_pos h]
theorem ym_b {y : Int} (h : ¬ leapP y) : 12 = YM y := by unfold YM; rw [if_neg h]
theorem T1_bounds {y : Int} (h0 : -900 ≤ y) (h1 : y ≤ 2000000000) : -347900 ≤ T1 y ∧ T1 y ≤ 740000000002 := by
  have hb := D1_bounds (y := y) (by omega) (by omega)
  have hl := D1_low (y := y) (by omega)
  have h2 := D2_bounds y
  unfold T1
  omega
theorem d2_a {y : Int} (h : D1 (y + 1) - D1 y = 356) : 2 = D2 y := by unfold D2; rw [if_pos h]
theorem d2_b {y : Int} (h : ¬ D1 (y + 1) - D1 y = 356) (h2 : D1 y - D1 (y - 1) = 382) : 1 = D2 y := by unfold D2; rw [if_neg h, if_pos h2]
theorem d2_c {y : Int} (h : ¬ D1 (y + 1) - D1 y = 356) (h2 : ¬ D1 y - D1 (y - 1) = 382) : 0 = D2 y := by unfold D2; rw [if_neg h, if_neg h2]

end Heb


/-! ## HebLoop -/
namespace Heb
theorem ML_bounds (y m : Int) : 29 ≤ ML y m ∧ ML y m ≤ 30 := by
  unfold ML
  split
  · decide
  · split
    · decide
    · split
      · decide
      · split <;> decide
theorem msum_bounds (y a : Int) : ∀ n : Nat, 0 ≤ msum y a n ∧ msum y a n ≤ 30 * (n : Int)
  | 0 => by simp [msum]
  | n + 1 => by
    have h := msum_bounds y a n
    have h2 := ML_bounds y (a + n)
    unfold msum
    omega
structure JdMark (y : Int) : Prop where
  mk :: (one : True)
section
variable {prog : Program} {w : World} {A : Around} {E : Value → Shared → Prop} {s : Shared} {env : Env} {h₀ : Heap} {x : Str} {body : List Stmt} {Q : Flow → Shared → Prop}
/-- for m in range(a, b): jd += month_days(y, m) -/
theorem jd_loop {r : Addr} {a₀ b₀ : Int} {t₀ u₀ v₀ : Tok} {n : Nat} {m₀ : Str → Option Value} {news : List (Addr × Obj)} {c₀ y : Int} {tc : Tok} (_hy : JdMark y)
    (hh : A.handled = none) (hr : IsRange s.heap r a₀ b₀ 1 t₀ u₀ v₀) (hsmall : Builtin.Range.small a₀ b₀ 1 = true) (hn : Builtin.Range.rangeSize a₀ b₀ 1 = (n : Int)) (F : Fr h₀ env.locals s.heap m₀) (N : News h₀ env.locals s.heap news)
    (hj : m₀ "jd" = some (.float (hf c₀) tc)) (hnn : n ≤ 100) (hc1 : -(2 ^ 50) ≤ c₀) (hc2 : c₀ ≤ 2 ^ 50)
    (turn : ∀ k t J tJ h tk own, a₀ ≤ k → k < a₀ + (n : Int) → -(2 ^ 51) ≤ J → J ≤ 2 ^ 51 → 29 ≤ ML y k → ML y k ≤ 30 → OwnOff own (news.map (·.1)) → Fr h₀ env.locals h (fun z => if z = x then some (.int k t) else if z = "jd" then some (.float (hf J) tJ) else m₀ z) → News h₀ env.locals h (news ++ own) →
      wpAny (model prog w) A (execs body env) (InvPostN h₀ env.locals (fun m' nx => nx = news ∧ (∃ t', m' "jd" = some (.float (hf (J + 2 * ML y k)) t')) ∧ ∀ z, z ≠ x → z ≠ "jd" → m' z = m₀ z) own (news.map (·.1)) { s with heap := h, toks := tk } Q) E { s with heap := h, toks := tk })
    (done : ∀ (u : Str → Option Value) t h tk, Fr h₀ env.locals h (fun z => if z = x then u z else if z = "jd" then some (.float (hf (c₀ + 2 * msum y a₀ n)) t) else m₀ z) → News h₀ env.locals h news → Q .next { s with heap := h, toks := tk }) :
    wpAny (model prog w) A (pyIter (.ref r)) (fun it s₂ => LoopAtV prog w A h₀ env x body Q E it s₂) E s := by
  refine wpAny_pyIter_range hr hsmall ?_
  have W : Walks prog w A s.heap.objs.size [s.heap.objs.size] [s.heap.objs.size] n (fun i v => i < n ∧ ∃ t, v = .int (a₀ + i * 1) t)
      (fun i h => IsRangeIter h s.heap.objs.size (a₀ + (i : Nat) * 1) ((n : Int) - (i : Nat)) 1) := (Walks.range hh _ a₀ 1 n).bound
  refine loop_invN (fun i m nx => nx = news ∧ (∃ t', m "jd" = some (.float (hf (c₀ + 2 * msum y a₀ i)) t')) ∧ ∀ z, z ≠ x → z ≠ "jd" → m z = m₀ z) W ?_ ?_ ?_ ?_ (by show IsRangeIter _ _ _ _ _; rw [hn]; simpa using Heap.get?_push_size _ rfl) (F.push _) (fun p hp => ⟨Heap.get?_push_of_some _ (N p hp).1, (N p hp).2⟩) ⟨rfl, ⟨tc, by rw [hj]; simp [msum]⟩, fun _ _ _ => rfl⟩ ?_ ?_
  · intro hm
    exact absurd F.ns.lt ((List.mem_singleton.mp hm) ▸ Nat.lt_irrefl _)
  · intro b hb
    rw [List.mem_singleton.mp hb]
    exact next_is_new F
  · intro p hp hI
    exact absurd (Heap.lt_size (N p hp).1) ((List.mem_singleton.mp hI) ▸ Nat.lt_irrefl _)
  · intro p hp hI
    exact absurd (Heap.lt_size (N p hp).1) ((List.mem_singleton.mp hI) ▸ Nat.lt_irrefl _)
  · rintro i v m₁ nx h tk own hi ⟨_, t, rfl⟩ _ hoff ⟨rfl, ⟨ta, ha⟩, hm⟩ F₁ N₁
    have e1 : a₀ + (i : Int) * 1 = a₀ + (i : Int) := by omega
    rw [e1] at F₁
    rw [map_one ha hm] at F₁
    have hb := msum_bounds y a₀ i
    have hml := ML_bounds y (a₀ + (i : Int))
    have hs : c₀ + 2 * msum y a₀ (i + 1) = c₀ + 2 * msum y a₀ i + 2 * ML y (a₀ + (i : Int)) := by
      have : msum y a₀ (i + 1) = msum y a₀ i + ML y (a₀ + (i : Int)) := rfl
      omega
    rw [hs]
    exact turn _ t _ ta h tk own (by omega) (by omega) (by omega) (by omega) hml.1 hml.2 hoff F₁ N₁
  · rintro m₁ nx h tk ⟨rfl, ⟨t, ha⟩, hm⟩ F₁ N₁
    refine done m₁ t h tk ?_ N₁
    rw [done_one ha hm]; exact F₁
end
end Heb


/-! ## HebComp -/
namespace Heb
def upTo (mv : Int) (gs : List Int) : List Int := gs.filter fun k => decide (k ≤ mv)
theorem filt_fold (mv : Int) : ∀ (gs l : List Int), gs.foldl (fun l k => if k ≤ mv then l ++ [k] else l) l = l ++ upTo mv gs
  | [], l => by simp [upTo]
  | k :: r, l => by
    rw [List.foldl_cons, filt_fold mv r]
    unfold upTo
    by_cases h : k ≤ mv
    · rw [if_pos h, List.filter_cons_of_pos (by simpa using h)]; simp
    · rw [if_neg h, List.filter_cons_of_neg (by simpa using h)]
theorem atMost_len (mv : Int) (gs : List Int) : (upTo mv gs).length ≤ gs.length := List.length_filter_le _ _
def isInts : List Value → Bool
  | [] => true
  | .int _ _ :: r => isInts r
  | _ :: _ => false
def intList : List Value → List Int
  | [] => []
  | .int n _ :: r => n :: intList r
  | _ :: r => intList r
theorem ints_of : ∀ {vs : List Value}, isInts vs = true → IntsAre vs (intList vs)
  | [], _ => .nil
  | v :: r, h => by
    cases v <;> first | exact .cons _ _ (ints_of (by simpa [isInts] using h)) | (simp [isInts] at h)
section
variable {prog : Program} {w : World} {A : Around} {E : Value → Shared → Prop} {s₁ : Shared} {h₀ : Heap} {L : Addr} {m : Str → Option Value} {env : Env}
/-- [x for x in gs if x <= fv], fv a name of the block around -/
theorem le_src {x fv : Str} {p1 p2 p3 p4 : Pos} {scope : Scope} {cl : List (Str × Addr)} {ax c : Addr} {o : Obj} {vs : List Value} {mv : Int} {tv : Tok} {news : List (Addr × Obj)} {Q : Value → Shared → Prop}
    (hh : A.handled = none) (F : Fr h₀ L s₁.heap m) (N : News h₀ L s₁.heap news) (hs : LCg.SrcAt h₀ ax vs.toArray news) (hv : isInts vs = true) (hn : vs.length ≤ 100)
    (hc : cl.lookup fv = some c) (hm : (c, o) ∈ news) (hd : o.data = .cell (some (.int mv tv)))
    (hk : ∀ C, (compEnvC scope cl C env).scope.kind = .function) (hx : ∀ C, (compEnvC scope cl C env).kindOf x = some .local) (hf : ∀ C, (compEnvC scope cl C env).kindOf fv = some .cell)
    (hxd : (x == ("__debug__" : Str)) = false) (hfd : (fv == ("__debug__" : Str)) = false) (hmark : behindInMarks CmpOp.LtE (Expr.Name fv p3) = false)
    (h : ∀ D ys h' tk', Fr h₀ L h' m → News h₀ L h' ((D, LCg.lst ys) :: news) → LCg.Off1 D news → IntsAre ys (upTo mv (intList vs)) → (upTo mv (intList vs)).length ≤ 100 → Q (.ref D) { s₁ with heap := h', toks := tk' }) :
    LCt.CompSrcT prog w A h₀ L m env (.Compare (.Name x p2) [.LtE] [.Name fv p3] p4) (.Name x p1) x scope cl (fun s₂ => LCg.FinE h₀ L m s₂ Q) (.ref ax) s₁ := by
  have hi := ints_of hv
  refine .inl ⟨ax, vs.toArray, news, rfl, hh, F, N, hs, ?_, ?_⟩
  · rw [List.size_toArray]
    exact Nat.le_trans hn (by decide)
  · rintro s₂ ⟨g, rfl⟩
    refine kci_list (fun l k => if k ≤ mv then l ++ [k] else l) hi ?_ ?_ ?_
    · intro k t I oI C oC D m₂ ys l h tk E' _ _ hC hxm F' N' off _ _
      have hmC : (C, oC) ∈ (I, oI) :: (C, oC) :: (D, LCg.lst ys) :: news := .tail _ (.head _)
      have hmc : (c, o) ∈ (I, oI) :: (C, oC) :: (D, LCg.lst ys) :: news := .tail _ (.tail _ (.tail _ hm))
      refine wpAny_isTrue_Compare1 (LCgL.ld_own N' hmC hC hxm (lcf_cell N' hc hmc hd (le_int (wpAny_truthy_bool ?_)) (hk C) (hf C) hfd) (hk C) (hx C) hxd) hmark
      by_cases q : k ≤ mv
      · rw [decide_eq_true q, if_pos rfl, if_pos q]
        exact LCgL.ld_own N' hmC hC hxm (LCg.CompEnd.intro F' N' news (fun p hp => hp) off hs (kci_el rfl rfl rfl)) (hk C) (hx C) hxd
      · rw [decide_eq_false q, if_neg (by decide), if_neg q]
        exact LCg.CompEnd.intro F' N' news (fun p hp => hp) off hs (kci_no rfl rfl)
    · unfold KPfDone
      intro ys hy _
      rw [filt_fold, List.nil_append] at hy
      intro D h' tk' F' N' o1
      exact h D ys h' tk' F' N' o1 hy (Nat.le_trans (atMost_len _ _) (by rw [← hi.length]; exact hn))
    · intro l k
      dsimp only
      split <;> simp
/-- the length of such a list -/
theorem w_len {ys : List Value} {l : List Int} {a : Addr} {news : List (Addr × Obj)} {Q : Value → Shared → Prop} (N : News h₀ L s₁.heap news) (hm : (a, LCg.lst ys) ∈ news) (hi : IntsAre ys l) (hb : l.length ≤ 100)
    (h : Q (.int (l.length : Int) (s₁.toks + 1)) { s₁ with toks := s₁.toks + 1 + 1 }) : wpAny (model prog w) A (call (.builtin "len") [.ref a]) Q E s₁ :=
  kst_len N hm hi.length (by omega) h
end
end Heb


/-! ## HebStart -/
namespace Heb
inductive Kd where
  | long | ahead | between | behind
def Kd.str : Kd → Str
  | .long => Str.ofString "long"
  | .ahead => Str.ofString "ahead"
  | .between => Str.ofString "between"
  | .behind => Str.ofString "behind"
def place (y : Int) : Int := (y - 1) % 19
def monthsOf (y : Int) : Int := 235 * ((y - 1) / 19) + 12 * place y + (upTo (place y) [3, 6, 8, 11, 14, 17, 19]).length
def moonOf (y : Int) : Int := (38004 + 765433 * monthsOf y) % 181440
def yearKind (y : Int) : Kd :=
  if ([3, 6, 8, 11, 14, 17, 19].any fun x => x == place y + 1) = true then .long
  else if ([2, 5, 10, 13, 16].any fun x => x == place y + 1) = true then .ahead
  else if ([7, 18].any fun x => x == place y + 1) = true then .between
  else .behind
theorem place_eq (y : Int) : (y - 1).fmod 19 = place y := Int.fmod_eq_emod_of_nonneg _ (by decide)
theorem moon_eq (y : Int) : (38004 + 765433 * (235 * (y - 1).fdiv 19 + 12 * (y - 1).fmod 19 + ((upTo ((y - 1).fmod 19) [3, 6, 8, 11, 14, 17, 19]).length : Int))).fmod 181440 = moonOf y := by
  rw [Int.fmod_eq_emod_of_nonneg _ (by decide), place_eq, Int.fdiv_eq_ediv_of_nonneg _ (by decide)]
  rfl
section
variable {y : Int}
theorem kind_a (h : ([3, 6, 8, 11, 14, 17, 19].any fun x => x == (y - 1).fmod 19 + 1) = true) : Kd.long = yearKind y := by
  rw [place_eq] at h; unfold yearKind; rw [if_pos h]
theorem kind_b (h : ([3, 6, 8, 11, 14, 17, 19].any fun x => x == (y - 1).fmod 19 + 1) = false) (h2 : ([2, 5, 10, 13, 16].any fun x => x == (y - 1).fmod 19 + 1) = true) : Kd.ahead = yearKind y := by
  rw [place_eq] at h h2; unfold yearKind; rw [if_neg (by rw [h]; decide), if_pos h2]
theorem kind_c (h : ([3, 6, 8, 11, 14, 17, 19].any fun x => x == (y - 1).fmod 19 + 1) = false) (h2 : ([2, 5, 10, 13, 16].any fun x => x == (y - 1).fmod 19 + 1) = false) (h3 : ([7, 18].any fun x => x == (y - 1).fmod 19 + 1) = true) : Kd.between = yearKind y := by
  rw [place_eq] at h h2 h3; unfold yearKind; rw [if_neg (by rw [h]; decide), if_neg (by rw [h2]; decide), if_pos h3]
theorem kind_d (h : ([3, 6, 8, 11, 14, 17, 19].any fun x => x == (y - 1).fmod 19 + 1) = false) (h2 : ([2, 5, 10, 13, 16].any fun x => x == (y - 1).fmod 19 + 1) = false) (h3 : ([7, 18].any fun x => x == (y - 1).fmod 19 + 1) = false) : Kd.behind = yearKind y := by
  rw [place_eq] at h h2 h3; unfold yearKind; rw [if_neg (by rw [h]; decide), if_neg (by rw [h2]; decide), if_neg (by rw [h3]; decide)]
end
abbrev kmObj (k : Kd) (mv : Int) (t1 t2 : Tok) (c : Nat) : Obj := { cls := .type "tuple", data := .seq #[.str k.str t1, .int mv t2] c }
structure DStart (prog : Program) (w : World) (K : Frag) (p : Program) (loose : List Str) (mean : ExcName → Option Value) (mg mb : Str → Option Value) : Prop where
  get : ∀ (y : Int) (ty : Tok) (news : List (Addr × Obj)) (dp un : Nat) (gd : Option (List Code)) (cn : Str) (cs : Scope) (a : Addr) (ccd : Value) (cl : List (Str × Addr)) (outer : List Env) (A₀ : Around) (base h₀ : Heap) (L : Addr) (m : Str → Option Value) (s : Shared) (Q E : Value → Shared → Prop),
    Below A₀ base outer h₀ → Fr h₀ L s.heap m → K.In h₀ → News h₀ L s.heap news → Top p loose mean mg mb h₀ → cs.kind = .function →
    dp + 3 < recursionLimit → un + 8 * 3 < cLine →
    (∀ (k : Kd), k = yearKind y → ∀ (D : Addr) (t1 t2 : Tok) (c : Nat) (h' : Heap) (tk' : Nat), Fr h₀ L h' m → News h₀ L h' ((D, kmObj k (moonOf y) t1 t2 c) :: news) → AllLt D news → Q (.ref D) { s with heap := h', toks := tk' }) →
      wpAny (model prog w) (ktrTop dp un gd cn cs L a ccd cl outer) (call (.ref 145) [.int y ty]) Q E s
section
variable {prog : Program} {w : World} {K : Frag} {p : Program} {loose : List Str} {mean : ExcName → Option Value} {mg mb : Str → Option Value}
  {news : List (Addr × Obj)} {dp un : Nat} {gd : Option (List Code)} {cn : Str} {cs : Scope} {a : Addr} {ccd : Value} {cl : List (Str × Addr)} {outer : List Env} {A₀ : Around} {base h₀ : Heap} {L : Addr} {m : Str → Option Value} {s : Shared} {Q E : Value → Shared → Prop}
  {y : Int} {ty : Tok}
theorem use_start (D : DStart prog w K p loose mean mg mb) (B : Below A₀ base outer h₀) (F : Fr h₀ L s.heap m) (X : K.In h₀) (N : News h₀ L s.heap news) (T : Top p loose mean mg mb h₀) (hk : cs.kind = .function)
    (hd : dp + 3 < recursionLimit) (hu : un + 8 * 3 < cLine)
    (ret : ∀ (k : Kd), k = yearKind y → ∀ (D : Addr) (t1 t2 : Tok) (c : Nat) (h' : Heap) (tk' : Nat), Fr h₀ L h' m → News h₀ L h' ((D, kmObj k (moonOf y) t1 t2 c) :: news) → AllLt D news → Q (.ref D) { s with heap := h', toks := tk' }) :
    wpAny (model prog w) (ktrTop dp un gd cn cs L a ccd cl outer) (call (.ref 145) [.int y ty]) Q E s :=
  D.get y ty _ _ _ _ _ _ _ _ _ _ _ _ _ _ _ _ _ _ B F X N T hk hd hu ret
theorem heb_endS {D : Addr} {t1 t2 : Tok} {c : Nat} {h' : Heap} {tk' : Nat} {led : List (Addr × Obj)} {mv : Int}
    (hret : ∀ (k : Kd), k = yearKind y → ∀ (D : Addr) (t1 t2 : Tok) (c : Nat) (h' : Heap) (tk' : Nat), Fr h₀ L h' m → News h₀ L h' ((D, kmObj k (moonOf y) t1 t2 c) :: news) → AllLt D news → Q (.ref D) { s with heap := h', toks := tk' })
    (k : Kd) (hk : k = yearKind y) (F : Fr h₀ L h' m) (N : News h₀ L h' led) (hm : (D, kmObj k mv t1 t2 c) ∈ led) (hmv : mv = moonOf y) (hn : ∀ p ∈ news, p ∈ led) (hl : AllLt D news) : Q (.ref D) { s with heap := h', toks := tk' } := by
  subst hmv
  refine hret k hk D t1 t2 c h' tk' F (fun p hp => ?_) hl
  rcases List.mem_cons.mp hp with rfl | hp
  · exact N _ hm
  · exact N p (hn p hp)
end
end Heb


/-! ## HebPlain -/
namespace Heb
/-- the last step at or below m -/
def stepv (l : List (Int × Int)) (m : Int) : Int := l.foldl (fun acc p => if p.1 ≤ m then p.2 else acc) 0
theorem stepv_loc {m m' : Int} : ∀ {l : List (Int × Int)} (a : Int), (∀ p ∈ l, (p.1 ≤ m ↔ p.1 ≤ m')) → l.foldl (fun acc p => if p.1 ≤ m then p.2 else acc) a = l.foldl (fun acc p => if p.1 ≤ m' then p.2 else acc) a
  | [], _, _ => rfl
  | p :: r, a, h => by
    rw [List.foldl_cons, List.foldl_cons, stepv_loc _ fun q hq => h q (List.mem_cons_of_mem _ hq)]
    congr 1
    have := h p List.mem_cons_self
    by_cases q : p.1 ≤ m
    · rw [if_pos q, if_pos (this.mp q)]
    · rw [if_neg q, if_neg (fun e => q (this.mpr e))]
theorem atMost_loc {m m' : Int} {l : List Int} (h : ∀ k ∈ l, (k ≤ m ↔ k ≤ m')) : upTo m l = upTo m' l := by
  unfold upTo
  refine List.filter_congr fun k hk => ?_
  rw [decide_eq_decide]
  exact h k hk
/-- the last of the marks at or below m stands for m -/
theorem last_mark {m : Int} : ∀ (l : List Int), (∃ t ∈ l, t ≤ m) → ∃ t ∈ l, t ≤ m ∧ ∀ k ∈ l, (k ≤ m ↔ k ≤ t)
  | [], h => by obtain ⟨_, h, _⟩ := h; cases h
  | a :: r, h => by
    by_cases hr : ∃ t ∈ r, t ≤ m
    · obtain ⟨t, ht, h1, h2⟩ := last_mark r hr
      by_cases q : a ≤ m
      · by_cases q2 : t ≤ a
        · refine ⟨a, List.mem_cons_self, q, fun k hk => ?_⟩
          rcases List.mem_cons.mp hk with rfl | hk
          · omega
          · have := h2 k hk; omega
        · refine ⟨t, List.mem_cons_of_mem _ ht, h1, fun k hk => ?_⟩
          rcases List.mem_cons.mp hk with rfl | hk
          · omega
          · exact h2 k hk
      · refine ⟨t, List.mem_cons_of_mem _ ht, h1, fun k hk => ?_⟩
        rcases List.mem_cons.mp hk with rfl | hk
        · omega
        · exact h2 k hk
    · obtain ⟨t, ht, h1⟩ := h
      rcases List.mem_cons.mp ht with rfl | ht
      · refine ⟨t, List.mem_cons_self, h1, fun k hk => ?_⟩
        rcases List.mem_cons.mp hk with rfl | hk
        · omega
        · have : ¬ k ≤ m := fun e => hr ⟨k, hk, e⟩
          omega
      · exact absurd ⟨t, ht, h1⟩ hr

/-! the day of a new moon, by its week and its place in the week -/
def mo (M : Int) : Int := (38004 + 765433 * M) % 181440
def wk (M : Int) : Int := (38004 + 765433 * M) / 181440
def dd (M : Int) : Int := if 3 * (M * 29 + (12084 + 13753 * M) / 25920 + 1) % 7 < 3 then M * 29 + (12084 + 13753 * M) / 25920 + 1 else M * 29 + (12084 + 13753 * M) / 25920
theorem D1_dd (y : Int) : D1 y = dd (mon y) := rfl
def S0 : List (Int × Int) := [(0, 0), (51840, 1), (77760, 3), (129600, 5)]
def S12 : List (Int × Int) := [(0, 353), (16404, 355), (68244, 357), (120084, 358), (146004, 360)]
def S13 : List (Int × Int) := [(0, 383), (28571, 385), (80411, 386), (106331, 388), (158171, 390)]
def B12 : List (Int × Int) := [(0, -356), (9516, -354), (61356, -352), (113196, -350), (165036, -349)]
def B13 : List (Int × Int) := [(0, -385), (23269, -384), (49189, -382), (101029, -380), (152869, -378)]
def S24 : List (Int × Int) := [(0, 707), (6888, 708), (32808, 710), (84648, 712), (136488, 714)]
def S25 : List (Int × Int) := [(0, 738), (44975, 740), (96815, 742), (148655, 743), (174575, 745)]
theorem mo_bounds (M : Int) : 0 ≤ mo M ∧ mo M < 181440 := by unfold mo; omega
theorem day_week (M : Int) : ∃ q, 0 ≤ q ∧ q ≤ 6 ∧ 25920 * q ≤ mo M ∧ mo M < 25920 * q + 25920 ∧ M * 29 + (12084 + 13753 * M) / 25920 + 1 = 7 * wk M + q := by
  have h1 := Int.mul_ediv_add_emod (38004 + 765433 * M) 181440
  have h2 := mo_bounds M
  have h3 := Int.mul_ediv_add_emod (12084 + 13753 * M) 25920
  have h4 := Int.emod_nonneg (12084 + 13753 * M) (show (25920 : Int) ≠ 0 by decide)
  have h5 := Int.emod_lt_of_pos (12084 + 13753 * M) (show (0 : Int) < 25920 by decide)
  have e1 : mo M = (38004 + 765433 * M) % 181440 := rfl
  have e2 : wk M = (38004 + 765433 * M) / 181440 := rfl
  rw [← e1, ← e2] at h1
  generalize (12084 + 13753 * M) / 25920 = x at *
  generalize (12084 + 13753 * M) % 25920 = r at *
  generalize mo M = m at *
  generalize wk M = W at *
  clear e1 e2
  refine ⟨M * 29 + x + 1 - 7 * W, ?_, ?_, ?_, ?_, ?_⟩ <;> omega
def ee (m : Int) : Int := if m < 51840 then 0 else if m < 77760 then 1 else if m < 129600 then 3 else 5
theorem dd_eq (M : Int) : dd M = 7 * wk M + ee (mo M) := by
  obtain ⟨q, h0, h6, h1, h2, h3⟩ := day_week M
  have h4 : M * 29 + (12084 + 13753 * M) / 25920 = 7 * wk M + q - 1 := by omega
  unfold dd
  rw [h3, h4]
  generalize mo M = m at *
  generalize wk M = W at *
  clear h3 h4
  unfold ee
  have hq : q = 0 ∨ q = 1 ∨ q = 2 ∨ q = 3 ∨ q = 4 ∨ q = 5 ∨ q = 6 := by omega
  rcases hq with rfl | rfl | rfl | rfl | rfl | rfl | rfl <;> (repeat' split) <;> omega
theorem dd_0 (M : Int) : dd M = 7 * wk M + stepv S0 (mo M) := by
  have hb := mo_bounds M
  rw [dd_eq]
  generalize mo M = m at *
  generalize wk M = W at *
  unfold ee S0 stepv
  simp only [List.foldl]
  (repeat' split) <;> omega
theorem sh_12 (M : Int) : (mo M < 68244 ∧ mo (M + 12) = mo M + 113196 ∧ wk (M + 12) = wk M + 50) ∨ (68244 ≤ mo M ∧ mo (M + 12) = mo M - 68244 ∧ wk (M + 12) = wk M + 51) := by
  unfold mo wk
  by_cases h : (38004 + 765433 * M) % 181440 < 68244
  · left; refine ⟨h, ?_, ?_⟩ <;> omega
  · right; refine ⟨by omega, ?_, ?_⟩ <;> omega
theorem dd_12 (M : Int) : dd (M + 12) = 7 * wk M + stepv S12 (mo M) := by
  have hb := mo_bounds M
  rw [dd_eq]
  rcases sh_12 M with ⟨h0, h1, h2⟩ | ⟨h0, h1, h2⟩ <;>
  · rw [h1, h2]
    generalize mo M = m at *
    generalize wk M = W at *
    clear h1 h2
    unfold ee S12 stepv
    simp only [List.foldl]
    (repeat' split) <;> omega
theorem sh_13 (M : Int) : (mo M < 28571 ∧ mo (M + 13) = mo M + 152869 ∧ wk (M + 13) = wk M + 54) ∨ (28571 ≤ mo M ∧ mo (M + 13) = mo M - 28571 ∧ wk (M + 13) = wk M + 55) := by
  unfold mo wk
  by_cases h : (38004 + 765433 * M) % 181440 < 28571
  · left; refine ⟨h, ?_, ?_⟩ <;> omega
  · right; refine ⟨by omega, ?_, ?_⟩ <;> omega
theorem dd_13 (M : Int) : dd (M + 13) = 7 * wk M + stepv S13 (mo M) := by
  have hb := mo_bounds M
  rw [dd_eq]
  rcases sh_13 M with ⟨h0, h1, h2⟩ | ⟨h0, h1, h2⟩ <;>
  · rw [h1, h2]
    generalize mo M = m at *
    generalize wk M = W at *
    clear h1 h2
    unfold ee S13 stepv
    simp only [List.foldl]
    (repeat' split) <;> omega
theorem sh_b12 (M : Int) : (mo M < 113196 ∧ mo (M - 12) = mo M + 68244 ∧ wk (M - 12) = wk M + -51) ∨ (113196 ≤ mo M ∧ mo (M - 12) = mo M - 113196 ∧ wk (M - 12) = wk M + -50) := by
  unfold mo wk
  by_cases h : (38004 + 765433 * M) % 181440 < 113196
  · left; refine ⟨h, ?_, ?_⟩ <;> omega
  · right; refine ⟨by omega, ?_, ?_⟩ <;> omega
theorem dd_b12 (M : Int) : dd (M - 12) = 7 * wk M + stepv B12 (mo M) := by
  have hb := mo_bounds M
  rw [dd_eq]
  rcases sh_b12 M with ⟨h0, h1, h2⟩ | ⟨h0, h1, h2⟩ <;>
  · rw [h1, h2]
    generalize mo M = m at *
    generalize wk M = W at *
    clear h1 h2
    unfold ee B12 stepv
    simp only [List.foldl]
    (repeat' split) <;> omega
theorem sh_b13 (M : Int) : (mo M < 152869 ∧ mo (M - 13) = mo M + 28571 ∧ wk (M - 13) = wk M + -55) ∨ (152869 ≤ mo M ∧ mo (M - 13) = mo M - 152869 ∧ wk (M - 13) = wk M + -54) := by
  unfold mo wk
  by_cases h : (38004 + 765433 * M) % 181440 < 152869
  · left; refine ⟨h, ?_, ?_⟩ <;> omega
  · right; refine ⟨by omega, ?_, ?_⟩ <;> omega
theorem dd_b13 (M : Int) : dd (M - 13) = 7 * wk M + stepv B13 (mo M) := by
  have hb := mo_bounds M
  rw [dd_eq]
  rcases sh_b13 M with ⟨h0, h1, h2⟩ | ⟨h0, h1, h2⟩ <;>
  · rw [h1, h2]
    generalize mo M = m at *
    generalize wk M = W at *
    clear h1 h2
    unfold ee B13 stepv
    simp only [List.foldl]
    (repeat' split) <;> omega
theorem sh_24 (M : Int) : (mo M < 136488 ∧ mo (M + 24) = mo M + 44952 ∧ wk (M + 24) = wk M + 101) ∨ (136488 ≤ mo M ∧ mo (M + 24) = mo M - 136488 ∧ wk (M + 24) = wk M + 102) := by
  unfold mo wk
  by_cases h : (38004 + 765433 * M) % 181440 < 136488
  · left; refine ⟨h, ?_, ?_⟩ <;> omega
  · right; refine ⟨by omega, ?_, ?_⟩ <;> omega
theorem dd_24 (M : Int) : dd (M + 24) = 7 * wk M + stepv S24 (mo M) := by
  have hb := mo_bounds M
  rw [dd_eq]
  rcases sh_24 M with ⟨h0, h1, h2⟩ | ⟨h0, h1, h2⟩ <;>
  · rw [h1, h2]
    generalize mo M = m at *
    generalize wk M = W at *
    clear h1 h2
    unfold ee S24 stepv
    simp only [List.foldl]
    (repeat' split) <;> omega
theorem sh_25 (M : Int) : (mo M < 96815 ∧ mo (M + 25) = mo M + 84625 ∧ wk (M + 25) = wk M + 105) ∨ (96815 ≤ mo M ∧ mo (M + 25) = mo M - 96815 ∧ wk (M + 25) = wk M + 106) := by
  unfold mo wk
  by_cases h : (38004 + 765433 * M) % 181440 < 96815
  · left; refine ⟨h, ?_, ?_⟩ <;> omega
  · right; refine ⟨by omega, ?_, ?_⟩ <;> omega
theorem dd_25 (M : Int) : dd (M + 25) = 7 * wk M + stepv S25 (mo M) := by
  have hb := mo_bounds M
  rw [dd_eq]
  rcases sh_25 M with ⟨h0, h1, h2⟩ | ⟨h0, h1, h2⟩ <;>
  · rw [h1, h2]
    generalize mo M = m at *
    generalize wk M = W at *
    clear h1 h2
    unfold ee S25 stepv
    simp only [List.foldl]
    (repeat' split) <;> omega
end Heb


/-! ## HebPlain2 -/
namespace Heb
def limits : Kd → List Int
  | .long => [0, 28571, 51840, 77760, 96815, 129600, 158171]
  | .ahead => [0, 16404, 51840, 68244, 120084, 129600, 146004]
  | .between => [0, 16404, 49189, 68244, 120084, 129600, 146004]
  | .behind => [0, 16404, 49189, 68244, 120084, 129600, 136488]
def rowsLonger : List (Int × Int) := [(0, 383), (0, 385), (1, 384), (3, 383), (3, 385), (5, 383), (5, 385)]
def rowsShorter : List (Int × Int) := [(0, 353), (0, 355), (1, 354), (3, 354), (3, 355), (5, 353), (5, 355)]
def rowsK : Kd → List (Int × Int)
  | .long => rowsLonger
  | .ahead => rowsShorter
  | .between => rowsShorter
  | .behind => rowsShorter
def row1 (rs : List (Int × Int)) (g : Int) : Int := (rs.getD g.toNat (0, 0)).1
def row2 (rs : List (Int × Int)) (g : Int) : Int := (rs.getD g.toNat (0, 0)).2
def late (b p n : Int) : Int := if n - p = 356 then 2 else if p - b = 382 then 1 else 0
def patB (L0 L1 L2 : List (Int × Int)) (lims : List Int) (rows : List (Int × Int)) (m : Int) : Bool :=
  decide (0 ≤ ((upTo m lims).length : Int) - 1) && decide (((upTo m lims).length : Int) - 1 < 7) &&
  decide (stepv S0 m + late (stepv L0 m) (stepv S0 m) (stepv L1 m) = row1 rows (((upTo m lims).length : Int) - 1)) &&
  decide (stepv L1 m + late (stepv S0 m) (stepv L1 m) (stepv L2 m) - (stepv S0 m + late (stepv L0 m) (stepv S0 m) (stepv L1 m)) = row2 rows (((upTo m lims).length : Int) - 1))
theorem patB_loc {L0 L1 L2 : List (Int × Int)} {lims : List Int} {rows : List (Int × Int)} {m m' : Int} (h : ∀ p ∈ S0, (p.1 ≤ m ↔ p.1 ≤ m')) (h0 : ∀ p ∈ L0, (p.1 ≤ m ↔ p.1 ≤ m')) (h1 : ∀ p ∈ L1, (p.1 ≤ m ↔ p.1 ≤ m'))
    (h2 : ∀ p ∈ L2, (p.1 ≤ m ↔ p.1 ≤ m')) (h3 : ∀ k ∈ lims, (k ≤ m ↔ k ≤ m')) : patB L0 L1 L2 lims rows m = patB L0 L1 L2 lims rows m' := by
  have e : stepv S0 m = stepv S0 m' := stepv_loc _ h
  have e0 : stepv L0 m = stepv L0 m' := stepv_loc _ h0
  have e1 : stepv L1 m = stepv L1 m' := stepv_loc _ h1
  have e2 : stepv L2 m = stepv L2 m' := stepv_loc _ h2
  unfold patB
  rw [e, e0, e1, e2, atMost_loc h3]
theorem mem_of {L : List (Int × Int)} {l : List Int} {p : Int × Int} (h : (L.all fun p => l.contains p.1) = true) (hp : p ∈ L) : p.1 ∈ l := by
  have := List.all_eq_true.mp h p hp
  simpa using this
theorem memI_of {L l : List Int} {k : Int} (h : (L.all fun k => l.contains k) = true) (hp : k ∈ L) : k ∈ l := by
  have := List.all_eq_true.mp h k hp
  simpa using this
def marks_long : List Int := [0, 9516, 28571, 44975, 51840, 61356, 77760, 80411, 96815, 106331, 113196, 129600, 148655, 158171, 165036, 174575]
theorem pat_long {m : Int} (h0 : 0 ≤ m) : patB B12 S13 S25 (limits .long) rowsLonger m = true := by
  obtain ⟨t, ht, _, hl⟩ := last_mark (m := m) marks_long ⟨0, by decide, h0⟩
  have hall : (marks_long.all fun t => patB B12 S13 S25 (limits .long) rowsLonger t) = true := by decide +kernel
  rw [patB_loc (m' := t) (fun p hp => hl p.1 (mem_of (by decide +kernel) hp)) (fun p hp => hl p.1 (mem_of (by decide +kernel) hp)) (fun p hp => hl p.1 (mem_of (by decide +kernel) hp)) (fun p hp => hl p.1 (mem_of (by decide +kernel) hp)) (fun k hk => hl k (memI_of (by decide +kernel) hk))]
  exact List.all_eq_true.mp hall t ht
def marks_ahead : List Int := [0, 9516, 16404, 44975, 51840, 61356, 68244, 77760, 96815, 113196, 120084, 129600, 146004, 148655, 165036, 174575]
theorem pat_ahead {m : Int} (h0 : 0 ≤ m) : patB B12 S12 S25 (limits .ahead) rowsShorter m = true := by
  obtain ⟨t, ht, _, hl⟩ := last_mark (m := m) marks_ahead ⟨0, by decide, h0⟩
  have hall : (marks_ahead.all fun t => patB B12 S12 S25 (limits .ahead) rowsShorter t) = true := by decide +kernel
  rw [patB_loc (m' := t) (fun p hp => hl p.1 (mem_of (by decide +kernel) hp)) (fun p hp => hl p.1 (mem_of (by decide +kernel) hp)) (fun p hp => hl p.1 (mem_of (by decide +kernel) hp)) (fun p hp => hl p.1 (mem_of (by decide +kernel) hp)) (fun k hk => hl k (memI_of (by decide +kernel) hk))]
  exact List.all_eq_true.mp hall t ht
def marks_between : List Int := [0, 16404, 23269, 44975, 49189, 51840, 68244, 77760, 96815, 101029, 120084, 129600, 146004, 148655, 152869, 174575]
theorem pat_between {m : Int} (h0 : 0 ≤ m) : patB B13 S12 S25 (limits .between) rowsShorter m = true := by
  obtain ⟨t, ht, _, hl⟩ := last_mark (m := m) marks_between ⟨0, by decide, h0⟩
  have hall : (marks_between.all fun t => patB B13 S12 S25 (limits .between) rowsShorter t) = true := by decide +kernel
  rw [patB_loc (m' := t) (fun p hp => hl p.1 (mem_of (by decide +kernel) hp)) (fun p hp => hl p.1 (mem_of (by decide +kernel) hp)) (fun p hp => hl p.1 (mem_of (by decide +kernel) hp)) (fun p hp => hl p.1 (mem_of (by decide +kernel) hp)) (fun k hk => hl k (memI_of (by decide +kernel) hk))]
  exact List.all_eq_true.mp hall t ht
def marks_behind : List Int := [0, 6888, 16404, 23269, 32808, 49189, 51840, 68244, 77760, 84648, 101029, 120084, 129600, 136488, 146004, 152869]
theorem pat_behind {m : Int} (h0 : 0 ≤ m) : patB B13 S12 S24 (limits .behind) rowsShorter m = true := by
  obtain ⟨t, ht, _, hl⟩ := last_mark (m := m) marks_behind ⟨0, by decide, h0⟩
  have hall : (marks_behind.all fun t => patB B13 S12 S24 (limits .behind) rowsShorter t) = true := by decide +kernel
  rw [patB_loc (m' := t) (fun p hp => hl p.1 (mem_of (by decide +kernel) hp)) (fun p hp => hl p.1 (mem_of (by decide +kernel) hp)) (fun p hp => hl p.1 (mem_of (by decide +kernel) hp)) (fun p hp => hl p.1 (mem_of (by decide +kernel) hp)) (fun k hk => hl k (memI_of (by decide +kernel) hk))]
  exact List.all_eq_true.mp hall t ht

theorem place_cases (y : Int) : place y = 0 ∨ place y = 1 ∨ place y = 2 ∨ place y = 3 ∨ place y = 4 ∨ place y = 5 ∨ place y = 6 ∨ place y = 7 ∨ place y = 8 ∨ place y = 9 ∨ place y = 10 ∨ place y = 11 ∨ place y = 12 ∨ place y = 13 ∨ place y = 14 ∨ place y = 15 ∨ place y = 16 ∨ place y = 17 ∨ place y = 18 := by
  unfold place; omega
/-- the months from a year to its neighbours, by its kind -/
def Near (y : Int) : Kd → Prop
  | .long => mon (y - 1) = mon y - 12 ∧ mon (y + 1) = mon y + 13 ∧ mon (y + 2) = mon y + 25 ∧ leapP y
  | .ahead => mon (y - 1) = mon y - 12 ∧ mon (y + 1) = mon y + 12 ∧ mon (y + 2) = mon y + 25 ∧ ¬ leapP y
  | .between => mon (y - 1) = mon y - 13 ∧ mon (y + 1) = mon y + 12 ∧ mon (y + 2) = mon y + 25 ∧ ¬ leapP y
  | .behind => mon (y - 1) = mon y - 13 ∧ mon (y + 1) = mon y + 12 ∧ mon (y + 2) = mon y + 24 ∧ ¬ leapP y
theorem near_all (y : Int) : mon y = monthsOf y ∧ Near y (yearKind y) := by
  have hc := place_cases y
  have e : place y = (y - 1) % 19 := rfl
  have hk : yearKind y = (if ([3, 6, 8, 11, 14, 17, 19].any fun x => x == place y + 1) = true then .long
  else if ([2, 5, 10, 13, 16].any fun x => x == place y + 1) = true then .ahead
  else if ([7, 18].any fun x => x == place y + 1) = true then .between
  else .behind) := rfl
  have hm : monthsOf y = 235 * ((y - 1) / 19) + 12 * place y + (upTo (place y) [3, 6, 8, 11, 14, 17, 19]).length := rfl
  rcases hc with h | h | h | h | h | h | h | h | h | h | h | h | h | h | h | h | h | h | h <;>
  · rw [h] at hk hm
    rw [hk, hm]
    rw [e] at h
    refine ⟨?_, ?_⟩
    · simp only [upTo, List.filter, List.length]
      unfold mon
      simp
      omega
    · simp only [List.any, Near]
      unfold mon leapP
      simp
      omega
end Heb


/-! ## HebPlain3 -/
namespace Heb
def gateOf (k : Kd) (m : Int) : Int := ((upTo m (limits k)).length : Int) - 1
theorem late_shift (W b p n : Int) : late (W + b) (W + p) (W + n) = late b p n := by
  unfold late
  rw [show W + n - (W + p) = n - p by omega, show W + p - (W + b) = p - b by omega]
theorem D2_late (y : Int) : D2 y = late (D1 (y - 1)) (D1 y) (D1 (y + 1)) := rfl
theorem D2_late1 (y : Int) : D2 (y + 1) = late (D1 y) (D1 (y + 1)) (D1 (y + 2)) := by
  rw [D2_late, show y + 1 - 1 = y by omega, show y + 1 + 1 = y + 2 by omega]
theorem law_of {y : Int} {L0 L1 L2 : List (Int × Int)} {lims : List Int} {rows : List (Int × Int)} (hb : D1 (y - 1) = 7 * wk (mon y) + stepv L0 (mo (mon y))) (hn : D1 (y + 1) = 7 * wk (mon y) + stepv L1 (mo (mon y)))
    (hnn : D1 (y + 2) = 7 * wk (mon y) + stepv L2 (mo (mon y))) (hp : patB L0 L1 L2 lims rows (mo (mon y)) = true) :
    0 ≤ ((upTo (mo (mon y)) lims).length : Int) - 1 ∧ ((upTo (mo (mon y)) lims).length : Int) - 1 < 7 ∧ T1 y = 7 * wk (mon y) + row1 rows (((upTo (mo (mon y)) lims).length : Int) - 1) ∧ YD y = row2 rows (((upTo (mo (mon y)) lims).length : Int) - 1) := by
  have h0 : D1 y = 7 * wk (mon y) + stepv S0 (mo (mon y)) := dd_0 _
  unfold patB at hp
  simp only [Bool.and_eq_true, decide_eq_true_eq] at hp
  obtain ⟨⟨⟨g0, g1⟩, e1⟩, e2⟩ := hp
  have t1 : T1 y = 7 * wk (mon y) + (stepv S0 (mo (mon y)) + late (stepv L0 (mo (mon y))) (stepv S0 (mo (mon y))) (stepv L1 (mo (mon y)))) := by
    unfold T1
    rw [D2_late, hb, h0, hn, late_shift, Int.add_assoc]
  have t2 : T1 (y + 1) = 7 * wk (mon y) + (stepv L1 (mo (mon y)) + late (stepv S0 (mo (mon y))) (stepv L1 (mo (mon y))) (stepv L2 (mo (mon y)))) := by
    unfold T1
    rw [D2_late1, h0, hn, hnn, late_shift, Int.add_assoc]
  refine ⟨g0, g1, by rw [t1, e1], ?_⟩
  unfold YD
  rw [t2, t1, ← e2]
  omega
theorem year_law (y : Int) : 0 ≤ gateOf (yearKind y) (moonOf y) ∧ gateOf (yearKind y) (moonOf y) < 7 ∧ T1 y = 7 * wk (mon y) + row1 (rowsK (yearKind y)) (gateOf (yearKind y) (moonOf y)) ∧ YD y = row2 (rowsK (yearKind y)) (gateOf (yearKind y) (moonOf y)) := by
  obtain ⟨hm, hn⟩ := near_all y
  have e : moonOf y = mo (mon y) := by rw [hm]; rfl
  have hb := (mo_bounds (mon y)).1
  rw [e]
  unfold gateOf
  cases hk : yearKind y <;> rw [hk] at hn <;> obtain ⟨h1, h2, h3, _⟩ := hn
  · exact law_of (by rw [D1_dd, h1]; exact dd_b12 _) (by rw [D1_dd, h2]; exact dd_13 _) (by rw [D1_dd, h3]; exact dd_25 _) (pat_long hb)
  · exact law_of (by rw [D1_dd, h1]; exact dd_b12 _) (by rw [D1_dd, h2]; exact dd_12 _) (by rw [D1_dd, h3]; exact dd_25 _) (pat_ahead hb)
  · exact law_of (by rw [D1_dd, h1]; exact dd_b13 _) (by rw [D1_dd, h2]; exact dd_12 _) (by rw [D1_dd, h3]; exact dd_25 _) (pat_between hb)
  · exact law_of (by rw [D1_dd, h1]; exact dd_b13 _) (by rw [D1_dd, h2]; exact dd_12 _) (by rw [D1_dd, h3]; exact dd_24 _) (pat_behind hb)
theorem row_len (k : Kd) {g : Int} (h0 : 0 ≤ g) (h1 : g < 7) : Len (row2 (rowsK k) g) := by
  have hg : g = 0 ∨ g = 1 ∨ g = 2 ∨ g = 3 ∨ g = 4 ∨ g = 5 ∨ g = 6 := by omega
  unfold Len
  rcases hg with rfl | rfl | rfl | rfl | rfl | rfl | rfl <;> cases k <;> decide
theorem row1_bounds (k : Kd) {g : Int} (h0 : 0 ≤ g) (h1 : g < 7) : 0 ≤ row1 (rowsK k) g ∧ row1 (rowsK k) g < 7 := by
  have hg : g = 0 ∨ g = 1 ∨ g = 2 ∨ g = 3 ∨ g = 4 ∨ g = 5 ∨ g = 6 := by omega
  rcases hg with rfl | rfl | rfl | rfl | rfl | rfl | rfl <;> cases k <;> decide
theorem YD_len (y : Int) : Len (YD y) := by
  obtain ⟨h0, h1, _, h2⟩ := year_law y
  rw [h2]
  exact row_len _ h0 h1
/-- the day of the new year, as the law counts it -/
def newYearDay (y : Int) : Int := T1 y + 347998
theorem first_mod (y : Int) : newYearDay y % 7 = row1 (rowsK (yearKind y)) (gateOf (yearKind y) (moonOf y)) := by
  obtain ⟨h0, h1, h, _⟩ := year_law y
  have hb := row1_bounds (yearKind y) h0 h1
  unfold newYearDay
  rw [h]
  omega

/-! 247 years on -/
theorem kind_247 (y : Int) : yearKind (y + 247) = yearKind y := by
  have e : place (y + 247) = place y := by unfold place; omega
  unfold yearKind
  rw [e]
theorem mon_247 (y : Int) : mon (y + 247) = mon y + 3055 := by unfold mon; omega
theorem moon_247 (y : Int) : (moonOf y - 905 < 0 → moonOf (y + 247) = moonOf y - 905 + 181440 ∧ wk (mon (y + 247)) = wk (mon y) + 12887) ∧ (¬ moonOf y - 905 < 0 → moonOf (y + 247) = moonOf y - 905 ∧ wk (mon (y + 247)) = wk (mon y) + 12888) := by
  have e (y : Int) : moonOf y = mo (mon y) := by rw [(near_all y).1]; rfl
  rw [e, e, mon_247]
  generalize mon y = M
  unfold mo wk
  omega
theorem leap_kind (y : Int) : leapP y ↔ yearKind y = .long := by
  have h := (near_all y).2
  cases hk : yearKind y <;> rw [hk] at h <;> obtain ⟨_, _, _, h⟩ := h
  · exact ⟨fun _ => rfl, fun _ => h⟩
  · exact ⟨fun q => absurd q h, fun q => by cases q⟩
  · exact ⟨fun q => absurd q h, fun q => by cases q⟩
  · exact ⟨fun q => absurd q h, fun q => by cases q⟩
/-- the new year 247 years on -/
theorem first_247 (y : Int) {k : Kd} (hk : yearKind y = k) :
    (moonOf y - 905 < 0 → newYearDay (y + 247) = newYearDay y + 90216 - row1 (rowsK k) (gateOf k (moonOf y)) - 7 + row1 (rowsK k) (gateOf k (moonOf y - 905 + 181440))) ∧
    (¬ moonOf y - 905 < 0 → newYearDay (y + 247) = newYearDay y + 90216 - row1 (rowsK k) (gateOf k (moonOf y)) + row1 (rowsK k) (gateOf k (moonOf y - 905))) := by
  have h1 := (year_law y).2.2.1
  have h2 := (year_law (y + 247)).2.2.1
  rw [kind_247, hk] at h2
  rw [hk] at h1
  have hm := moon_247 y
  constructor
  · intro q
    obtain ⟨e1, e2⟩ := hm.1 q
    rw [e1, e2] at h2
    unfold newYearDay
    omega
  · intro q
    obtain ⟨e1, e2⟩ := hm.2 q
    rw [e1, e2] at h2
    unfold newYearDay
    omega
theorem ML_congr {y y' : Int} (hl : leapP y ↔ leapP y') (hd : YD y = YD y') (m : Int) : ML y m = ML y' m := by
  unfold ML
  rw [hd]
  simp only [hl]
theorem msum_congr {y y' : Int} (hl : leapP y ↔ leapP y') (hd : YD y = YD y') (a : Int) : ∀ n, msum y a n = msum y' a n
  | 0 => rfl
  | n + 1 => by
    show msum y a n + ML y (a + n) = msum y' a n + ML y' (a + n)
    rw [msum_congr hl hd a n, ML_congr hl hd]
theorem OFF_congr {y y' : Int} (hl : leapP y ↔ leapP y') (hd : YD y = YD y') (m : Int) : OFF y m = OFF y' m := by
  have hy : YM y = YM y' := by unfold YM; simp only [hl]
  unfold OFF
  rw [hy]
  simp only [msum_congr hl hd]
/-- the drawn day 247 years on, where the gate is the same -/
theorem JD_247 (y m d : Int) (hg : gateOf (yearKind y) (moonOf (y + 247)) = gateOf (yearKind y) (moonOf y)) : JD (y + 247) m d - JD y m d = 90216 := by
  have hl : leapP (y + 247) ↔ leapP y := by rw [leap_kind, leap_kind, kind_247]
  have h1 := year_law y
  have h2 := year_law (y + 247)
  rw [kind_247, hg] at h2
  have hd : YD (y + 247) = YD y := by rw [h2.2.2.2, h1.2.2.2]
  have ho := OFF_congr hl hd m
  have hm := moon_247 y
  -- no turn of the week: the gate 0 and the gate 6 are not the same
  have hw : wk (mon (y + 247)) = wk (mon y) + 12888 := by
    by_cases q : moonOf y - 905 < 0
    · exfalso
      have e := (hm.1 q).1
      have hb : 0 ≤ moonOf y := by unfold moonOf; omega
      rw [e] at hg
      have g0 : gateOf (yearKind y) (moonOf y) = 0 := by
        have : ∀ k : Kd, upTo (moonOf y) (limits k) = [0] := by
          intro k
          rw [atMost_loc (m' := 0)]
          · cases k <;> decide
          · cases k <;> (intro a ha; simp only [limits, List.mem_cons, List.not_mem_nil, or_false] at ha; omega)
        unfold gateOf
        rw [this]
        rfl
      have g6 : gateOf (yearKind y) (moonOf y - 905 + 181440) = 6 := by
        have : ∀ k : Kd, upTo (moonOf y - 905 + 181440) (limits k) = limits k := by
          intro k
          rw [atMost_loc (m' := 181440)]
          · cases k <;> decide
          · cases k <;> (intro a ha; simp only [limits, List.mem_cons, List.not_mem_nil, or_false] at ha; omega)
        unfold gateOf
        rw [this]
        cases yearKind y <;> rfl
      omega
    · exact (hm.2 q).2
  unfold JD
  rw [ho, h2.2.2.1, h1.2.2.1, hw]
  omega
end Heb


/-! ## HebRows -/
namespace Heb
/-- a list of pairs that the top laid -/
structure RowsAt (h : Heap) (a : Addr) (rs : List (Int × Int)) : Prop where
  get : ∃ vs : List Value, h.IsList a vs.toArray ∧ ∀ i : Nat, i < rs.length → ∃ b t1 t2, vs[i]? = some (.ref b) ∧ IsTup h b [Value.int (rs.getD i (0, 0)).1 t1, .int (rs.getD i (0, 0)).2 t2].toArray
section
variable {prog : Program} {w : World} {A : Around} {E : Value → Shared → Prop} {s : Shared} {h₀ : Heap} {L a b : Addr} {m : Str → Option Value} {rs : List (Int × Int)} {g : Int} {u t1 t2 : Tok} {value slice : PySem.Expr} {Q : Value → Shared → Prop} {x y : Int}
theorem w_row (F : Fr h₀ L s.heap m) (R : RowsAt h₀ a rs) (h0 : 0 ≤ g) (h1 : g < 7) (hl : rs.length = 7)
    (h : ∀ b t1 t2, IsTup h₀ b [Value.int (row1 rs g) t1, .int (row2 rs g) t2].toArray → Q (.ref b) s)
    (hs : subscripted slice false (.ref a) (.int g u) = operate [.ref a, .int g u] (getItem (.ref a) (.int g u)) := by with_unfolding_all rfl) :
    wpAny (model prog w) A (subscriptTail value slice (.ref a) (.int g u)) Q E s := by
  obtain ⟨vs, hL, hR⟩ := R.get
  obtain ⟨b, t1, t2, e, hT⟩ := hR g.toNat (by omega)
  have hL' : s.heap.IsList a vs.toArray := by obtain ⟨o, ho, r⟩ := hL; exact ⟨o, F.keep _ _ ho, r⟩
  exact tail_any hL'.typeIs slot_list_getitem.lookup (wpAny_getItem_list hL' h0 (by omega) (by simpa using e) (h b t1 t2 hT)) hs
theorem w_tup0 (F : Fr h₀ L s.heap m) (T : IsTup h₀ b [Value.int x t1, .int y t2].toArray) (h : Q (.int x t1) s)
    (hs : subscripted slice false (.ref b) (.int 0 u) = operate [.ref b, .int 0 u] (getItem (.ref b) (.int 0 u)) := by with_unfolding_all rfl) :
    wpAny (model prog w) A (subscriptTail value slice (.ref b) (.int 0 u)) Q E s :=
  item_tupleT (j := 0) (T.keeps F.keep) (by decide) (by decide) rfl rfl h hs
theorem w_tup1 (F : Fr h₀ L s.heap m) (T : IsTup h₀ b [Value.int x t1, .int y t2].toArray) (h : Q (.int y t2) s)
    (hs : subscripted slice false (.ref b) (.int 1 u) = operate [.ref b, .int 1 u] (getItem (.ref b) (.int 1 u)) := by with_unfolding_all rfl) :
    wpAny (model prog w) A (subscriptTail value slice (.ref b) (.int 1 u)) Q E s :=
  item_tupleT (j := 1) (T.keeps F.keep) (by decide) (by decide) rfl rfl h hs
end

/-- what the law's turn leaves behind -/
def LawJ (C : Addr) (y : Int) (kd : Kd) (m₀ : Str → Option Value) (k : Int) (m' : Str → Option Value) (nx : List (Addr × Obj)) : Prop :=
  ∃ o', nx = [(C, o')] ∧ (∃ t, o'.data = .cell (some (.int (moonOf (y + 247 * k)) t))) ∧ (∃ t, m' "first" = some (.int (newYearDay (y + 247 * k)) t)) ∧
    (∃ t, m' "gate" = some (.int (gateOf kd (moonOf (y + 247 * k))) t)) ∧ ∀ z : Str, z ≠ "step" → z ≠ "first" → z ≠ "gate" → z ≠ "due" → z ≠ "behind" → z ≠ "later" → m' z = m₀ z
structure LawMark (y : Int) (kd : Kd) : Prop where
  mk :: (one : True)
section
variable {prog : Program} {w : World} {A : Around} {E : Value → Shared → Prop} {s : Shared} {env : Env} {h₀ : Heap} {body : List Stmt} {Q : Flow → Shared → Prop}
theorem law_loop {r C : Addr} {t₀ u₀ v₀ tf tg tm : Tok} {m₀ : Str → Option Value} {led : List (Addr × Obj)} {o₀ : Obj} {y : Int} {kd : Kd} (_hy : LawMark y kd)
    (hh : A.handled = none) (hr : IsRange s.heap r 1 9 1 t₀ u₀ v₀) (F : Fr h₀ env.locals s.heap m₀) (N : News h₀ env.locals s.heap led) (hm : (C, o₀) ∈ led)
    (hd : o₀.data = .cell (some (.int (moonOf y) tm))) (hf : m₀ "first" = some (.int (newYearDay y) tf)) (hg : m₀ "gate" = some (.int (((upTo (moonOf y) (limits kd)).length : Int) - 1) tg))
    (turn : ∀ (k : Int) (tk' : Tok) (M : Int) (tM : Tok) (Fv : Int) (tF : Tok) (Gv : Int) (tG : Tok) (o : Obj) (u : Str → Option Value) (h : Heap) (tk : Nat) (own : List (Addr × Obj)), 1 ≤ k → k ≤ 8 →
      M = moonOf (y + 247 * (k - 1)) → Fv = newYearDay (y + 247 * (k - 1)) → Gv = gateOf kd (moonOf (y + 247 * (k - 1))) → o.data = .cell (some (.int M tM)) → OwnOff own [C] →
      Fr h₀ env.locals h (fun z : Str => if z = "step" then some (.int k tk') else if z = "first" then some (.int Fv tF) else if z = "gate" then some (.int Gv tG) else if z = "due" then u z else if z = "behind" then u z else if z = "later" then u z else m₀ z) →
      News h₀ env.locals h ((C, o) :: own) →
      wpAny (model prog w) A (execs body env) (InvPostN h₀ env.locals (LawJ C y kd m₀ k) own [C] { s with heap := h, toks := tk } Q) E { s with heap := h, toks := tk })
    (done : ∀ (m₁ : Str → Option Value) (h : Heap) (tk : Nat) (nx : List (Addr × Obj)), Fr h₀ env.locals h m₁ → News h₀ env.locals h nx → Q .next { s with heap := h, toks := tk }) :
    wpAny (model prog w) A (pyIter (.ref r)) (fun it s₂ => LoopAtV prog w A h₀ env "step" body Q E it s₂) E s := by
  refine wpAny_pyIter_range hr (by decide) ?_
  have W : Walks prog w A s.heap.objs.size [s.heap.objs.size] [s.heap.objs.size] 8 (fun i v => i < 8 ∧ ∃ t, v = .int (1 + i * 1) t)
      (fun i h => IsRangeIter h s.heap.objs.size (1 + (i : Nat) * 1) ((8 : Nat) - (i : Nat)) 1) := (Walks.range hh _ 1 1 8).bound
  have hsize : Builtin.Range.rangeSize 1 9 1 = ((8 : Nat) : Int) := by decide
  have N1 : News h₀ env.locals s.heap [(C, o₀)] := fun p hp => by rw [List.mem_singleton.mp hp]; exact N _ hm
  refine loop_invN (news := [(C, o₀)]) (fun i m nx => LawJ C y kd m₀ (i : Int) m nx) W ?_ ?_ ?_ ?_ (by show IsRangeIter _ _ _ _ _; rw [hsize]; simpa using Heap.get?_push_size _ rfl) (F.push _) (fun p hp => ⟨Heap.get?_push_of_some _ (N1 p hp).1, (N1 p hp).2⟩) ?_ ?_ ?_
  · intro hm
    exact absurd F.ns.lt ((List.mem_singleton.mp hm) ▸ Nat.lt_irrefl _)
  · intro b hb
    rw [List.mem_singleton.mp hb]
    exact next_is_new F
  · intro p hp hI
    exact absurd (Heap.lt_size (N1 p hp).1) ((List.mem_singleton.mp hI) ▸ Nat.lt_irrefl _)
  · intro p hp hI
    exact absurd (Heap.lt_size (N1 p hp).1) ((List.mem_singleton.mp hI) ▸ Nat.lt_irrefl _)
  · refine ⟨o₀, rfl, ⟨tm, ?_⟩, ⟨tf, ?_⟩, ⟨tg, ?_⟩, fun _ _ _ _ _ _ _ => rfl⟩
    · rw [hd]; simp
    · rw [hf]; simp
    · rw [hg]; simp [gateOf]
  · rintro i v m₁ nx h tk own hi ⟨_, t, rfl⟩ _ hoff ⟨o, rfl, ⟨tM, hM⟩, ⟨tF, hF⟩, ⟨tG, hG⟩, hz⟩ F₁ N₁
    have e0 : y + 247 * (i : Int) = y + 247 * ((1 + (i : Int) * 1) - 1) := by omega
    rw [e0] at hM hF hG
    have e1 : ((i + 1 : Nat) : Int) = 1 + (i : Int) * 1 := by omega
    rw [e1]
    refine turn (1 + (i : Int) * 1) t _ tM _ tF _ tG o m₁ h tk own (by omega) (by omega) rfl rfl rfl hM hoff ?_ N₁
    have em : (fun z : Str => if z = "step" then some (Value.int (1 + (i : Int) * 1) t) else m₁ z) = fun z : Str => if z = "step" then some (Value.int (1 + (i : Int) * 1) t) else if z = "first" then some (.int (newYearDay (y + 247 * ((1 + (i : Int) * 1) - 1))) tF)
        else if z = "gate" then some (.int (gateOf kd (moonOf (y + 247 * ((1 + (i : Int) * 1) - 1)))) tG) else if z = "due" then m₁ z else if z = "behind" then m₁ z else if z = "later" then m₁ z else m₀ z := by
      funext z
      by_cases h1 : z = "step"
      · simp only [if_pos h1]
      · simp only [if_neg h1]
        by_cases h2 : z = "first"
        · subst h2; rw [if_pos rfl, hF]
        · simp only [if_neg h2]
          by_cases h3 : z = "gate"
          · subst h3; rw [if_pos rfl, hG]
          · simp only [if_neg h3]
            by_cases h4 : z = "due"
            · simp only [if_pos h4]
            · simp only [if_neg h4]
              by_cases h5 : z = "behind"
              · simp only [if_pos h5]
              · simp only [if_neg h5]
                by_cases h6 : z = "later"
                · simp only [if_pos h6]
                · simp only [if_neg h6]
                  exact hz z h1 h2 h3 h4 h5 h6
    rw [em] at F₁
    exact F₁
  · rintro m₁ nx h tk _ F₁ N₁
    exact done m₁ h tk nx F₁ N₁
end
section
variable {M : Model} {A : Around} {E : Value → Shared → Prop} {s : Shared} {h₀ : Heap} {L a : Addr} {m : Str → Option Value} {cn : Str} {cs : Scope} {ccd : Value} {cl : List (Str × Addr)} {x : Str} {Q : Unit → Shared → Prop} {news : List (Addr × Obj)} {t : Tok}
theorem store_gen {v : Int} {P : Int → Prop} (hb : P v) (F : Fr h₀ L s.heap m) (N : News h₀ L s.heap news)
    (h : ∀ v : Int, P v → ∀ h', Fr h₀ L h' (fun z => if z = x then some (.int v t) else m z) → News h₀ L h' news → Q () { s with heap := h', toks := s.toks + 1 })
    (hk : cs.kind = .function := by rfl) (hx : (envX cn cs L a ccd cl).kindOf x = some .local := by rfl) : wpAny M A (storeName (envX cn cs L a ccd cl) x (.int v t)) Q E s :=
  storeX_L F N (h v hb) hk hx
theorem store_as {v v' : Int} (e : v = v') (F : Fr h₀ L s.heap m) (N : News h₀ L s.heap news)
    (h : ∀ h', Fr h₀ L h' (fun z => if z = x then some (.int v' t) else m z) → News h₀ L h' news → Q () { s with heap := h', toks := s.toks + 1 })
    (hk : cs.kind = .function := by rfl) (hx : (envX cn cs L a ccd cl).kindOf x = some .local := by rfl) : wpAny M A (storeName (envX cn cs L a ccd cl) x (.int v t)) Q E s := by
  subst e; exact storeX_L F N h hk hx
end
theorem year_in (x : Int) : -900 ≤ Int.fmod x 1000000000 - 900 ∧ Int.fmod x 1000000000 - 900 < 1000000000 := by
  rw [Int.fmod_eq_emod_of_nonneg _ (by decide)]; omega
theorem month_in13 (x : Int) : 1 ≤ 1 + Int.fmod x 13 ∧ 1 + Int.fmod x 13 ≤ 13 := by
  rw [Int.fmod_eq_emod_of_nonneg _ (by decide)]; omega
theorem month_in12 (x : Int) : 1 ≤ 1 + Int.fmod x 12 ∧ 1 + Int.fmod x 12 ≤ 13 := by
  rw [Int.fmod_eq_emod_of_nonneg _ (by decide)]; omega
theorem day_in (x : Int) : 1 ≤ 1 + Int.fmod x 29 ∧ 1 + Int.fmod x 29 ≤ 29 := by
  rw [Int.fmod_eq_emod_of_nonneg _ (by decide)]; omega
theorem first_as (y : Int) : (2 * (T1 y + 347997) + 1 + 1) / 2 = newYearDay y := by unfold newYearDay; omega
theorem cell_as {o : Obj} {a b : Int} {t : Tok} (h : o.data = .cell (some (.int a t))) (e : a = b) : ∃ t, o.data = .cell (some (.int b t)) := ⟨t, by rw [h, e]⟩
theorem int_as {m : Str → Option Value} {z : Str} {a b : Int} {t : Tok} (h : m z = some (.int a t)) (e : a = b) : ∃ t, m z = some (.int b t) := ⟨t, by rw [h, e]⟩
/-- what holds at the first year -/
theorem facts0 {y : Int} {kd : Kd} (h : kd = yearKind y) (h0 : -900 ≤ y) (h1 : y < 1000000000) :
    0 ≤ gateOf kd (moonOf y) ∧ gateOf kd (moonOf y) < 7 ∧ (newYearDay y).fmod 7 = row1 (rowsK kd) (gateOf kd (moonOf y)) ∧ 2 * YD y = 2 * row2 (rowsK kd) (gateOf kd (moonOf y)) ∧ (-347900 ≤ T1 y ∧ T1 y ≤ 740000000002) ∧ (353 ≤ YD y ∧ YD y ≤ 385) := by
  subst h
  obtain ⟨g0, g1, _, e2⟩ := year_law y
  have hl := YD_len y
  have hb := T1_bounds (y := y) h0 (by omega)
  refine ⟨g0, g1, ?_, by rw [e2], hb, by unfold Len at hl; omega⟩
  rw [Int.fmod_eq_emod_of_nonneg _ (by decide), first_mod]
theorem kind_step (y j : Int) : yearKind (y + 247 * j) = yearKind y := by
  have e : place (y + 247 * j) = place y := by unfold place; omega
  unfold yearKind
  rw [e]
theorem JD_bounds {y m d : Int} (h0 : -900 ≤ y) (h1 : y ≤ 1700000000) (hm0 : 1 ≤ m) (hm : m ≤ 13) (hd0 : 1 ≤ d) (hd : d ≤ 29) : -1000 ≤ JD y m d ∧ JD y m d ≤ 750000000000 := by
  have hb := T1_bounds (y := y) h0 (by omega)
  have hym : 12 ≤ YM y ∧ YM y ≤ 13 := by unfold YM; split <;> decide
  have hs1 := msum_bounds y 7 (YM y - 6).toNat
  have hs2 := msum_bounds y 1 (m - 1).toNat
  have hs3 := msum_bounds y 7 (m - 7).toNat
  unfold JD OFF
  split <;> omega
/-- what holds in a turn -/
theorem facts1 {y k M Fv Gv : Int} {kd : Kd} (h : kd = yearKind y) (hk1 : 1 ≤ k) (hk8 : k ≤ 8) (h0 : -900 ≤ y) (h1 : y < 1000000000) (hM : M = moonOf (y + 247 * (k - 1))) (hF : Fv = newYearDay (y + 247 * (k - 1))) (hG : Gv = gateOf kd (moonOf (y + 247 * (k - 1)))) :
    (0 ≤ Gv ∧ Gv < 7) ∧ (M - 905 < 0 → M - 905 + 181440 = moonOf (y + 247 * k) ∧ newYearDay (y + 247 * k) = Fv + 90216 - row1 (rowsK kd) Gv - 7 + row1 (rowsK kd) (gateOf kd (M - 905 + 181440))) ∧
    (¬ M - 905 < 0 → M - 905 = moonOf (y + 247 * k) ∧ newYearDay (y + 247 * k) = Fv + 90216 - row1 (rowsK kd) Gv + row1 (rowsK kd) (gateOf kd (M - 905))) ∧
    (0 ≤ gateOf kd (moonOf (y + 247 * k)) ∧ gateOf kd (moonOf (y + 247 * k)) < 7) ∧ 2 * YD (y + 247 * k) = 2 * row2 (rowsK kd) (gateOf kd (moonOf (y + 247 * k))) ∧
    (-347900 ≤ T1 (y + 247 * k) ∧ T1 (y + 247 * k) ≤ 740000000002) ∧ (353 ≤ YD (y + 247 * k) ∧ YD (y + 247 * k) ≤ 385) ∧ (leapP (y + 247 * k) ↔ kd = .long) ∧
    (∀ m d, k = 1 → gateOf kd (moonOf (y + 247 * k)) = Gv → JD (y + 247 * k) m d - JD y m d = 90216) := by
  have e : y + 247 * (k - 1) + 247 = y + 247 * k := by omega
  have hk' := kind_step y (k - 1)
  have hk := kind_step y k
  rw [← h] at hk hk'
  obtain ⟨g0, g1, _, _⟩ := year_law (y + 247 * (k - 1))
  rw [hk'] at g0 g1
  obtain ⟨g2, g3, _, e2⟩ := year_law (y + 247 * k)
  rw [hk] at g2 g3 e2
  have hf := first_247 (y + 247 * (k - 1)) hk'
  have hm := moon_247 (y + 247 * (k - 1))
  rw [e] at hf hm
  have hl := YD_len (y + 247 * k)
  have hlp : leapP (y + 247 * k) ↔ kd = .long := by rw [leap_kind, hk]
  subst hM hF hG
  refine ⟨⟨g0, g1⟩, fun q => ⟨((hm.1 q).1).symm, hf.1 q⟩, fun q => ⟨((hm.2 q).1).symm, hf.2 q⟩, ⟨g2, g3⟩, by rw [e2], T1_bounds (by omega) (by omega), by unfold Len at hl; omega, hlp, ?_⟩
  · intro m d hk hg
    subst hk
    have := JD_247 y m d
    rw [← h] at this
    simpa using this (by simpa using hg)
structure YearIs (y : Int) : Prop where
  lo : -900 ≤ y
  hi : y < 1000000000
structure MonthIs (m : Int) : Prop where
  lo : 1 ≤ m
  hi : m ≤ 13
structure DayIs (d : Int) : Prop where
  lo : 1 ≤ d
  hi : d ≤ 29
theorem year_is (x : Int) : YearIs (Int.fmod x 1000000000 - 900) := ⟨(year_in x).1, (year_in x).2⟩
theorem month_is13 (x : Int) : MonthIs (1 + Int.fmod x 13) := ⟨(month_in13 x).1, (month_in13 x).2⟩
theorem month_is12 (x : Int) : MonthIs (1 + Int.fmod x 12) := ⟨(month_in12 x).1, (month_in12 x).2⟩
theorem day_is (x : Int) : DayIs (1 + Int.fmod x 29) := ⟨(day_in x).1, (day_in x).2⟩
theorem mark_of {y : Int} {kd : Kd} (_h : kd = yearKind y) : LawMark y kd := ⟨trivial⟩
/-- a turn's two ways -/
def TurnWay (y k Fv Gv m d : Int) (kd : Kd) (X w : Int) : Prop :=
  X = moonOf (y + 247 * k) ∧ newYearDay (y + 247 * k) = Fv + 90216 - row1 (rowsK kd) Gv - w + row1 (rowsK kd) (((upTo X (limits kd)).length : Int) - 1) ∧ 0 ≤ ((upTo X (limits kd)).length : Int) - 1 ∧ ((upTo X (limits kd)).length : Int) - 1 < 7 ∧
    2 * YD (y + 247 * k) = 2 * row2 (rowsK kd) (((upTo X (limits kd)).length : Int) - 1) ∧ (k = 1 → ((upTo X (limits kd)).length : Int) - 1 = Gv → JD (y + 247 * k) m d - JD y m d = 90216) ∧
    ((upTo X (limits kd)).length : Int) - 1 = gateOf kd (moonOf (y + 247 * k))
theorem facts2 {y k M Fv Gv m d : Int} {kd : Kd} (h : kd = yearKind y) (hk1 : 1 ≤ k) (hk8 : k ≤ 8) (hy : YearIs y) (_hm : MonthIs m) (_hd : DayIs d) (hM : M = moonOf (y + 247 * (k - 1))) (hF : Fv = newYearDay (y + 247 * (k - 1))) (hG : Gv = gateOf kd (moonOf (y + 247 * (k - 1)))) :
    (M - 905 < 0 ∧ TurnWay y k Fv Gv m d kd (M - 905 + 181440) 7) ∨ (¬ M - 905 < 0 ∧ TurnWay y k Fv Gv m d kd (M - 905) 0) := by
  obtain ⟨_, hneg, hpos, ⟨g2, g3⟩, hYD, _, _, _, hJ⟩ := facts1 h hk1 hk8 hy.lo hy.hi hM hF hG
  by_cases q : M - 905 < 0
  · obtain ⟨e, e2⟩ := hneg q
    rw [← e] at g2 g3 hYD hJ
    exact .inl ⟨q, e, e2, g2, g3, hYD, hJ m d, by rw [← e]; rfl⟩
  · obtain ⟨e, e2⟩ := hpos q
    rw [← e] at g2 g3 hYD hJ
    exact .inr ⟨q, e, by rw [e2]; unfold gateOf; omega, g2, g3, hYD, hJ m d, by rw [← e]; rfl⟩
theorem facts3 {y k M Fv Gv m d : Int} {kd : Kd} (h : kd = yearKind y) (hk1 : 1 ≤ k) (hk8 : k ≤ 8) (hy : YearIs y) (hm : MonthIs m) (hd : DayIs d) (hM : M = moonOf (y + 247 * (k - 1))) (hF : Fv = newYearDay (y + 247 * (k - 1))) (hG : Gv = gateOf kd (moonOf (y + 247 * (k - 1)))) :
    (0 ≤ Gv ∧ Gv < 7) ∧ (-347900 ≤ T1 (y + 247 * k) ∧ T1 (y + 247 * k) ≤ 740000000002) ∧ (353 ≤ YD (y + 247 * k) ∧ YD (y + 247 * k) ≤ 385) ∧ (-1000 ≤ JD (y + 247 * k) m d ∧ JD (y + 247 * k) m d ≤ 750000000000) ∧ (-1000 ≤ JD y m d ∧ JD y m d ≤ 750000000000) := by
  obtain ⟨hg, _, _, _, _, hT, hD, _, _⟩ := facts1 h hk1 hk8 hy.lo hy.hi hM hF hG
  have h0 := hy.lo
  have h1 := hy.hi
  exact ⟨hg, hT, hD, JD_bounds (by omega) (by omega) hm.lo hm.hi hd.lo hd.hi, JD_bounds (by omega) (by omega) hm.lo hm.hi hd.lo hd.hi⟩
theorem leap_in {y : Int} (h : Kd.long = yearKind y) (k : Int) : leapP (y + 247 * k) ∧ YM (y + 247 * k) = 13 := by
  have : leapP (y + 247 * k) := by rw [leap_kind, kind_step, ← h]
  exact ⟨this, by unfold YM; rw [if_pos this]⟩
theorem leap_out {y : Int} {kd : Kd} (h : kd = yearKind y) (hn : kd ≠ .long) (k : Int) : ¬ leapP (y + 247 * k) ∧ YM (y + 247 * k) = 12 := by
  have : ¬ leapP (y + 247 * k) := by rw [leap_kind, kind_step, ← h]; exact hn
  exact ⟨this, by unfold YM; rw [if_neg this]⟩
section
variable {prog : Program} {w : World} {K : Frag} {p : Program} {loose : List Str} {mean : ExcName → Option Value} {mg mb : Str → Option Value}
  {news : List (Addr × Obj)} {dp un : Nat} {gd : Option (List Code)} {cn : Str} {cs : Scope} {a : Addr} {ccd : Value} {cl : List (Str × Addr)} {outer : List Env} {A₀ : Around} {base h₀ : Heap} {L : Addr} {m : Str → Option Value} {s : Shared} {Q E : Value → Shared → Prop}
  {y : Int} {ty : Tok}
theorem use_leapT (D : DLeap prog w K p loose mean mg mb) (hl : leapP y) (B : Below A₀ base outer h₀) (F : Fr h₀ L s.heap m) (X : K.In h₀) (N : News h₀ L s.heap news) (T : Top p loose mean mg mb h₀) (hk : cs.kind = .function)
    (hd : dp + 1 < recursionLimit) (hu : un + 8 * 1 < cLine)
    (ret : ∀ (h' : Heap) (tk' : Nat), Fr h₀ L h' m → News h₀ L h' news → Q (.bool true) { s with heap := h', toks := tk' }) :
    wpAny (model prog w) (ktrTop dp un gd cn cs L a ccd cl outer) (call (.ref 49) [.int y ty]) Q E s :=
  use_leap D B F X N T hk hd hu (by rw [decide_eq_true hl]; exact ret)
theorem use_leapF (D : DLeap prog w K p loose mean mg mb) (hl : ¬ leapP y) (B : Below A₀ base outer h₀) (F : Fr h₀ L s.heap m) (X : K.In h₀) (N : News h₀ L s.heap news) (T : Top p loose mean mg mb h₀) (hk : cs.kind = .function)
    (hd : dp + 1 < recursionLimit) (hu : un + 8 * 1 < cLine)
    (ret : ∀ (h' : Heap) (tk' : Nat), Fr h₀ L h' m → News h₀ L h' news → Q (.bool false) { s with heap := h', toks := tk' }) :
    wpAny (model prog w) (ktrTop dp un gd cn cs L a ccd cl outer) (call (.ref 49) [.int y ty]) Q E s :=
  use_leap D B F X N T hk hd hu (by rw [decide_eq_false hl]; exact ret)
end
end Heb


/-! ## HebKinds -/
namespace Heb
def gateAddr : Kd → Addr
  | .long => 121
  | .ahead => 122
  | .between => 123
  | .behind => 124
/-- the table of the gates, by a kind's name -/
structure GatesAt (K : Frag) : Prop where
  get : ∀ kd : Kd, nsIn K 120 kd.str = some (some (.ref (gateAddr kd)))
/-- the lists that it holds -/
structure GateLists (K : Frag) : Prop where
  get : ∀ (h : Heap), K.In h → ∀ kd : Kd, ∃ vs : List Value, h.IsList (gateAddr kd) vs.toArray ∧ isInts vs = true ∧ intList vs = limits kd ∧ vs.length ≤ 100
theorem kd_cases (kd : Kd) : kd = .long ∨ kd ≠ .long := by cases kd <;> simp
theorem rowsK_of {kd : Kd} (h : kd ≠ .long) : rowsK kd = rowsShorter := by cases kd <;> first | rfl | exact absurd rfl h
section
variable {prog : Program} {w : World} {A : Around} {E : Value → Shared → Prop} {s s₁ : Shared} {h₀ : Heap} {L : Addr} {m : Str → Option Value} {env : Env} {t u : Tok}
theorem w_kind_ne {kd : Kd} {Q : Value → Shared → Prop} (h : kd ≠ .long) (hq : Q (.bool false) s) : wpAny (model prog w) A (compareOp .Eq (.str kd.str t) (.str (Str.ofString "long") u)) Q E s := by
  refine PyProof.Rows.eq_str ?_
  have e : (kd.str == Str.ofString "long") = false := by cases kd <;> first | exact absurd rfl h | decide +kernel
  rw [e]; exact hq
theorem le_srcK {K : Frag} {kd : Kd} {x fv : Str} {p1 p2 p3 p4 : Pos} {scope : Scope} {cl : List (Str × Addr)} {c : Addr} {o : Obj} {mv : Int} {tv : Tok} {news : List (Addr × Obj)} {Q : Value → Shared → Prop}
    (hG : GateLists K) (X : K.In h₀) (hh : A.handled = none) (F : Fr h₀ L s₁.heap m) (N : News h₀ L s₁.heap news)
    (hc : cl.lookup fv = some c) (hm : (c, o) ∈ news) (hd : o.data = .cell (some (.int mv tv)))
    (hk : ∀ C, (compEnvC scope cl C env).scope.kind = .function) (hx : ∀ C, (compEnvC scope cl C env).kindOf x = some .local) (hf : ∀ C, (compEnvC scope cl C env).kindOf fv = some .cell)
    (hxd : (x == ("__debug__" : Str)) = false) (hfd : (fv == ("__debug__" : Str)) = false) (hmark : behindInMarks CmpOp.LtE (Expr.Name fv p3) = false)
    (h : ∀ D ys h' tk', Fr h₀ L h' m → News h₀ L h' ((D, LCg.lst ys) :: news) → LCg.Off1 D news → IntsAre ys (upTo mv (limits kd)) → (upTo mv (limits kd)).length ≤ 100 → Q (.ref D) { s₁ with heap := h', toks := tk' }) :
    LCt.CompSrcT prog w A h₀ L m env (.Compare (.Name x p2) [.LtE] [.Name fv p3] p4) (.Name x p1) x scope cl (fun s₂ => LCg.FinE h₀ L m s₂ Q) (.ref (gateAddr kd)) s₁ := by
  obtain ⟨vs, hl, hv, he, hn⟩ := hG.get h₀ X kd
  rw [← he] at h
  exact le_src hh F N (.inl hl) hv hn hc hm hd hk hx hf hxd hfd hmark h
end
end Heb


namespace Heb
theorem news_ne {h₀ h : Heap} {L a b : Addr} {o o' : Obj} {news : List (Addr × Obj)} (N : News h₀ L h news) (ha : (a, o) ∈ news) (hb : (b, o') ∈ news) {v : Option Value} (hd : o'.data = .cell v) (hn : ∀ v, o.data ≠ .cell v) : a ≠ b := by
  intro e
  subst e
  have h1 := (N _ ha).1
  have h2 := (N _ hb).1
  rw [h1] at h2
  cases h2
  exact hn v hd
theorem off_of_lt {l : Nat} {news : List (Addr × Obj)} (h : ∀ p ∈ news, p.1 < l) : ∀ p ∈ news, p.1 ≠ l + 1 := fun p hp => Nat.ne_of_lt (Nat.lt_succ_of_lt (h p hp))

section
variable {prog : Program} {w : World} {K : Frag} {p : Program} {loose : List Str} {mean : ExcName → Option Value} {mg mb : Str → Option Value}
/-- every def's contract, shown once, each from those below it -/
theorem all_cuts (prog : Program) {h : Heap} {G : Prop} (_X : K.In h) (_T : Top p loose mean mg mb h)
    (cLeap : DLeap prog w K p loose mean mg mb)
    (cYM : DLeap prog w K p loose mean mg mb → DYM prog w K p loose mean mg mb)
    (cD1 : DD1 prog w K p loose mean mg mb)
    (cD2 : DD1 prog w K p loose mean mg mb → DD2 prog w K p loose mean mg mb)
    (cJ7 : DYM prog w K p loose mean mg mb → DD1 prog w K p loose mean mg mb → DD2 prog w K p loose mean mg mb → DJ7 prog w K p loose mean mg mb)
    (cYD : DJ7 prog w K p loose mean mg mb → DYD prog w K p loose mean mg mb)
    (cML : DLeap prog w K p loose mean mg mb → DYD prog w K p loose mean mg mb → DML prog w K p loose mean mg mb)
    (cMD : DML prog w K p loose mean mg mb → DMD prog w K p loose mean mg mb)
    (cJD : DYM prog w K p loose mean mg mb → DD1 prog w K p loose mean mg mb → DD2 prog w K p loose mean mg mb → DMD prog w K p loose mean mg mb → DJD prog w K p loose mean mg mb)
    (cSt : DStart prog w K p loose mean mg mb)
    (cRl : ∀ h, K.In h → RowsAt h 132 rowsLonger) (cRs : ∀ h, K.In h → RowsAt h 140 rowsShorter) (cGa : GatesAt K) (cGl : GateLists K)
    (rest : DLeap prog w K p loose mean mg mb → DYM prog w K p loose mean mg mb → DJ7 prog w K p loose mean mg mb → DYD prog w K p loose mean mg mb → DJD prog w K p loose mean mg mb → DStart prog w K p loose mean mg mb →
      (∀ h, K.In h → RowsAt h 132 rowsLonger) → (∀ h, K.In h → RowsAt h 140 rowsShorter) → GatesAt K → GateLists K → G) : G :=
  have h1 := cYM cLeap
  have h3 := cD2 cD1
  have h4 := cJ7 h1 cD1 h3
  have h5 := cYD h4
  have h7 := cMD (cML cLeap h5)
  rest cLeap h1 h4 h5 (cJD h1 cD1 h3 h7) cSt cRl cRs cGa cGl
end
end Heb
open Heb
local macro_rules | `(tactic| walk_at "call ref") => `(tactic| (k_here; (with_reducible show wpAny _ _ (PySem.call (Value.ref _) _) _ _ _); (refine wpAny_call ?_); k_dflt (refine' code_def ?k1 ?k2 ?k3 ?k4 ?k5 ?kA ?kF ?kK ?k6 ?k7 ?k8 ?k9 ?kB ?_ ?c2 ?c3 ?c4 ?c5; (case kA => exact rfl); (case kF => exact rfl); (case kK => first | exact rfl | assumption); (case k1 => k_asm); (case k2 => k_asm); (case k3 => k_asm); (case k4 => k_asm); (case k5 => k_asm); (case k6 => k_is); (case k7 => k_is); (case k8 => ktr_room); (case k9 => exact BindsTo.of_eq rfl); (case c5 => decide); (case kB => exact locs rfl); (case c2 => exact rfl); (case c3 => exact rfl); (case c4 => exact rfl); k_whole; intro g' L' h' FG' F' N' B' X' T'; (try dsimp only); (try k_lift B'); (try k_fold))))
local macro_rules | `(tactic| walk_at "heb arith") => `(tactic| first | decide | omega | fail "heb arith")
local macro_rules | `(tactic| walk_at "binaryOp Div int int") => `(tactic| ((with_reducible show wpAny _ _ (binaryOp Operator.Div (Value.int _ _) (Value.int _ _)) _ _ _); (refine' w_trueDiv ?a1 ?a2 ?a3 ?a4 ?a5 ?a6 ?_; (case a1 => walk_at "heb arith"); (case a2 => walk_at "heb arith"); (case a3 => walk_at "heb arith"); (case a4 => walk_at "heb arith"); (case a5 => walk_at "heb arith"); (case a6 => walk_at "heb arith"))))
local macro_rules | `(tactic| walk_at "call builtin:math.floor") => `(tactic| ((with_reducible show wpAny _ _ (PySem.call (Value.builtin "math.floor") [Value.float (qf _ _) _]) _ _ _); (refine' w_floor ?a1 ?a2 ?a3 ?a4 ?a5 ?a6 ?_; (case a1 => walk_at "heb arith"); (case a2 => walk_at "heb arith"); (case a3 => walk_at "heb arith"); (case a4 => walk_at "heb arith"); (case a5 => walk_at "heb arith"); (case a6 => walk_at "heb arith"))))
local macro_rules | `(tactic| walk_at "call ref") => `(tactic| (k_here; (with_reducible show wpAny _ _ (PySem.call (Value.ref 49) [Value.int _ _]) _ _ _); k_dflt (refine' use_leap ?kD ?k1 ?k2 ?k3 ?k4 ?k5 ?kK ?kd ?ku ?_; (case kD => assumption); (case k1 => k_asm); (case k2 => k_asm); (case k3 => k_asm); (case k4 => k_asm); (case k5 => k_asm); (case kK => first | exact rfl | assumption); (case kd => ktr_room); (case ku => ktr_units)); intro h9 tk9 F9 N9; (try dsimp only); (try k_sweep); (try k_fold)))
local macro_rules | `(tactic| walk_at "call ref") => `(tactic| (k_here; (with_reducible show wpAny _ _ (PySem.call (Value.ref 56) [Value.int _ _]) _ _ _); k_dflt (refine' use_YM ?kD ?k1 ?k2 ?k3 ?k4 ?k5 ?kK ?kd ?ku ?_; (case kD => assumption); (case k1 => k_asm); (case k2 => k_asm); (case k3 => k_asm); (case k4 => k_asm); (case k5 => k_asm); (case kK => first | exact rfl | assumption); (case kd => ktr_room); (case ku => ktr_units)); intro t9 h9 tk9 F9 N9; (try dsimp only); (try k_sweep); (try k_fold)))
local macro_rules | `(tactic| walk_at "call ref") => `(tactic| (k_here; (with_reducible show wpAny _ _ (PySem.call (Value.ref 63) [Value.int _ _]) _ _ _); k_dflt (refine' use_D1 ?kD ?k1 ?k2 ?k3 ?k4 ?k5 ?kK ?b1 ?b2 ?kd ?ku ?_; (case kD => assumption); (case k1 => k_asm); (case k2 => k_asm); (case k3 => k_asm); (case k4 => k_asm); (case k5 => k_asm); (case kK => first | exact rfl | assumption); (case b1 => walk_at "heb arith"); (case b2 => walk_at "heb arith"); (case kd => ktr_room); (case ku => ktr_units)); intro t9 h9 tk9 F9 N9; (try dsimp only); (try k_sweep); (try k_fold)))
local macro_rules | `(tactic| walk_at "call ref") => `(tactic| (k_here; (with_reducible show wpAny _ _ (PySem.call (Value.ref 70) [Value.int _ _]) _ _ _); k_dflt (refine' use_D2 ?kD ?k1 ?k2 ?k3 ?k4 ?k5 ?kK ?b1 ?b2 ?kd ?ku ?_; (case kD => assumption); (case k1 => k_asm); (case k2 => k_asm); (case k3 => k_asm); (case k4 => k_asm); (case k5 => k_asm); (case kK => first | exact rfl | assumption); (case b1 => walk_at "heb arith"); (case b2 => walk_at "heb arith"); (case kd => ktr_room); (case ku => ktr_units)); intro t9 h9 tk9 F9 N9; (try dsimp only); (try k_sweep); (try k_fold)))
local macro_rules | `(tactic| walk_at "binaryOp Add float int") => `(tactic| ((with_reducible show wpAny _ _ (binaryOp Operator.Add (Value.float (hf _) _) (Value.int _ _)) _ _ _); (refine' w_add_hi ?a1 ?a2 ?_; (case a1 => walk_at "heb arith"); (case a2 => walk_at "heb arith"); skip)))
local macro_rules | `(tactic| walk_at "binaryOp Add float int") => `(tactic| ((with_reducible show wpAny _ _ (binaryOp Operator.Add (Value.float 0x41153d6e00000000 _) (Value.int _ _)) _ _ _); (refine' w_add_epoch ?a1 ?_; (case a1 => walk_at "heb arith"); skip)))
local macro_rules | `(tactic| walk_at "inplaceOp Add float int") => `(tactic| ((with_reducible show wpAny _ _ (inplaceOp Operator.Add (Value.float (hf _) _) (Value.int _ _)) _ _ _); (refine' w_iadd_hi ?a1 ?a2 ?_; (case a1 => walk_at "heb arith"); (case a2 => walk_at "heb arith"); skip)))
local macro_rules | `(tactic| walk_at "call type:int") => `(tactic| ((with_reducible show wpAny _ _ (PySem.call (Value.type "int") [Value.float (hf _) _]) _ _ _); (refine' w_int ?a1 ?a2 ?_; (case a1 => walk_at "heb arith"); (case a2 => walk_at "heb arith"); skip)))
local macro_rules | `(tactic| walk_at "binaryOp Add int float") => `(tactic| ((with_reducible show wpAny _ _ (binaryOp Operator.Add (Value.int _ _) (Value.float 0x3fe0000000000000 _)) _ _ _); (refine' w_int_half ?a1 ?_; (case a1 => walk_at "heb arith"); skip)))
local macro_rules | `(tactic| walk_at "binaryOp Add float float") => `(tactic| ((with_reducible show wpAny _ _ (binaryOp Operator.Add (Value.float (hf _) _) (Value.float 0x3fe0000000000000 _)) _ _ _); (refine' w_hf_half ?a1 ?_; (case a1 => walk_at "heb arith"); skip)))
local macro_rules | `(tactic| walk_at "binaryOp Sub float float") => `(tactic| ((with_reducible show wpAny _ _ (binaryOp Operator.Sub (Value.float (hf _) _) (Value.float (hf _) _)) _ _ _); (refine' w_hf_sub ?a1 ?a2 ?_; (case a1 => walk_at "heb arith"); (case a2 => walk_at "heb arith"); skip)))
local macro_rules | `(tactic| walk_at "compareOp NotEq float int") => `(tactic| ((with_reducible show wpAny _ _ (compareOp CmpOp.NotEq (Value.float (hf _) _) (Value.int _ _)) _ _ _); (refine' w_hf_ne ?a1 ?_; (case a1 => walk_at "heb arith"); skip)))
local macro_rules | `(tactic| walk_at "compareOp Eq float int") => `(tactic| ((with_reducible show wpAny _ _ (compareOp CmpOp.Eq (Value.float (hf _) _) (Value.int _ _)) _ _ _); (refine' w_hf_eq ?a1 ?_; (case a1 => walk_at "heb arith"); skip)))
local macro_rules | `(tactic| walk_at "binaryOp Mod float int") => `(tactic| ((with_reducible show wpAny _ _ (binaryOp Operator.Mod (Value.float (hf (2 * _)) _) (Value.int 10 _)) _ _ _); (refine' w_hf_mod ?a1 ?_; (case a1 => assumption))))
local macro_rules | `(tactic| walk_at "call ref") => `(tactic| (k_here; (with_reducible show wpAny _ _ (PySem.call (Value.ref 98) [Value.int _ _, Value.int _ _, Value.int _ _]) _ _ _); k_dflt (refine' use_JD ?kD ?k1 ?k2 ?k3 ?k4 ?k5 ?kK ?b1 ?b2 ?b3 ?b4 ?b5 ?b6 ?kd ?ku ?_; (case kD => assumption); (case k1 => k_asm); (case k2 => k_asm); (case k3 => k_asm); (case k4 => k_asm); (case k5 => k_asm); (case kK => first | exact rfl | assumption); (case b1 => walk_at "heb arith"); (case b2 => walk_at "heb arith"); (case b3 => walk_at "heb arith"); (case b4 => walk_at "heb arith"); (case b5 => walk_at "heb arith"); (case b6 => walk_at "heb arith"); (case kd => ktr_room); (case ku => ktr_units)); intro t9 h9 tk9 F9 N9; (try dsimp only); (try k_sweep); (try k_fold)))
local macro_rules | `(tactic| walk_at "call ref") => `(tactic| (k_here; (with_reducible show wpAny _ _ (PySem.call (Value.ref 98) [Value.int _ _, Value.int 7 _, Value.int 1 _]) _ _ _); k_dflt (refine' use_J7 ?kD ?k1 ?k2 ?k3 ?k4 ?k5 ?kK ?b1 ?b2 ?kd ?ku ?_; (case kD => assumption); (case k1 => k_asm); (case k2 => k_asm); (case k3 => k_asm); (case k4 => k_asm); (case k5 => k_asm); (case kK => first | exact rfl | assumption); (case b1 => walk_at "heb arith"); (case b2 => walk_at "heb arith"); (case kd => ktr_room); (case ku => ktr_units)); intro t9 h9 tk9 F9 N9; (try dsimp only); (try k_sweep); (try k_fold)))
local macro_rules | `(tactic| walk_at "call ref") => `(tactic| (k_here; (with_reducible show wpAny _ _ (PySem.call (Value.ref 77) [Value.int _ _]) _ _ _); k_dflt (refine' use_YD ?kD ?k1 ?k2 ?k3 ?k4 ?k5 ?kK ?b1 ?b2 ?kd ?ku ?_; (case kD => assumption); (case k1 => k_asm); (case k2 => k_asm); (case k3 => k_asm); (case k4 => k_asm); (case k5 => k_asm); (case kK => first | exact rfl | assumption); (case b1 => walk_at "heb arith"); (case b2 => walk_at "heb arith"); (case kd => ktr_room); (case ku => ktr_units)); intro t9 h9 tk9 F9 N9; (try dsimp only); (try k_sweep); (try k_fold)))
local macro_rules | `(tactic| walk_at "call ref") => `(tactic| (k_here; (with_reducible show wpAny _ _ (PySem.call (Value.ref 84) [Value.int _ _, Value.int _ _]) _ _ _); k_dflt (refine' use_ML ?kD ?k1 ?k2 ?k3 ?k4 ?k5 ?kK ?b1 ?b2 ?b3 ?b4 ?kd ?ku ?_; (case kD => assumption); (case k1 => k_asm); (case k2 => k_asm); (case k3 => k_asm); (case k4 => k_asm); (case k5 => k_asm); (case kK => first | exact rfl | assumption); (case b1 => walk_at "heb arith"); (case b2 => walk_at "heb arith"); (case b3 => walk_at "heb arith"); (case b4 => walk_at "heb arith"); (case kd => ktr_room); (case ku => ktr_units)); intro t9 h9 tk9 F9 N9; (try dsimp only); (try k_sweep); (try k_fold)))
local macro_rules | `(tactic| walk_at "call ref") => `(tactic| (k_here; (with_reducible show wpAny _ _ (PySem.call (Value.ref 91) [Value.int _ _, Value.int _ _]) _ _ _); k_dflt (refine' use_MD ?kD ?k1 ?k2 ?k3 ?k4 ?k5 ?kK ?b1 ?b2 ?b3 ?b4 ?kd ?ku ?_; (case kD => assumption); (case k1 => k_asm); (case k2 => k_asm); (case k3 => k_asm); (case k4 => k_asm); (case k5 => k_asm); (case kK => first | exact rfl | assumption); (case b1 => walk_at "heb arith"); (case b2 => walk_at "heb arith"); (case b3 => walk_at "heb arith"); (case b4 => walk_at "heb arith"); (case kd => ktr_room); (case ku => ktr_units)); intro t9 h9 tk9 F9 N9; (try dsimp only); (try k_sweep); (try k_fold)))
local macro_rules | `(tactic| walk_at "storeName") => `(tactic| (k_here; (with_reducible show wpAny _ _ (storeName _ (Str.ofString "place") _) _ _ _); (with_reducible rename News _ _ _ _ => lN'); (have hne' := news_ne lN' (List.Mem.head _) (List.Mem.tail _ (List.Mem.head _)) (by assumption) (by intro v; nofun)); (refine' storeX_C ?F lN' ?c (UpdF.tail hne' (UpdF.head (off_of_lt ?al))) ?d ?_ ?a ?b; (case al => assumption); (case a => rfl); (case b => rfl); (case F => k_asm); (case c => rfl); (case d => k_asm)); (try clear lN'); intro h' o' F' N' d'; (try dsimp only at N'); (try k_sweep)))
local macro_rules | `(tactic| walk_at "eval ListComp") => `(tactic| (k_here; lct_look; k_dflt (refine LCt.ListComp_T (F₀ := by k_asm) (by with_unfolding_all rfl) (by decide) (by rfl) (by decide) (by rfl) ?_)))
local macro_rules | `(tactic| walk_at "CompSrcT") => `(tactic| (k_here; k_dflt (refine' le_src ?hh ?F ?N ?hs ?hv ?hn ?hc ?hm ?hd ?hk ?hx ?hf ?a ?b ?d ?_; (case hh => rfl); (case F => k_asm); (case N => k_asm); (case hs => first | exact Or.inr ⟨_, by k_mem, rfl, _, rfl⟩ | exact Or.inl (lstK (by k_in) (by k_is))); (case hv => rfl); (case hn => exact Nat.le_of_ble_eq_true rfl); (case hc => rfl); (case hm => k_mem); (case hd => k_asm); (case hk => intro; rfl); (case hx => intro; rfl); (case hf => intro; rfl); (case a => decide); (case b => decide); (case d => with_unfolding_all rfl)); intro D' ys' h' tk' F' N' o1' hI' hB'; (try simp only [LCg.Off1, and_true] at o1'); (try dsimp only [intList] at hI' hB'); (try dsimp only)))
local macro_rules | `(tactic| walk_at "call builtin:len") => `(tactic| (k_here; (with_reducible show wpAny _ _ (PySem.call (Value.builtin "len") [Value.ref _]) _ _ _); k_dflt (refine' w_len ?N ?hm ?hi ?hb ?_; (case N => k_asm); (case hm => k_mem); (case hi => assumption); (case hb => assumption))))
local macro_rules | `(tactic| walk_at "heb sub") => `(tactic| (intro p hp; repeat (first | exact hp | apply List.Mem.tail)))
local macro_rules | `(tactic| walk_at "heb lt") => `(tactic| ((rename _ ∧ _ => hq'); first | exact hq'.2 | exact hq'.2.2 | exact hq'.2.2.2 | exact hq'.2.2.2.2 | exact hq'.2.2.2.2.2 | exact hq'.2.2.2.2.2.2 | exact hq'.2.2.2.2.2.2.2 | exact hq'.2.2.2.2.2.2.2.2 | exact hq'.2.2.2.2.2.2.2.2.2))
local macro_rules | `(tactic| walk_at "pyIter ref") => `(tactic| ((with_reducible show wpAny _ _ (pyIter (Value.ref _)) (fun it s₂ => LoopAtV _ _ _ _ _ _ _ _ _ it s₂) _ _); (rename JdMark _ => jM'); (rename Fr _ _ _ _ => lF'); (rename News _ _ _ _ => lN'); (rename IsRange _ _ _ _ _ _ _ _ => rgX); (with_unfolding_all refine' jd_loop jM' (by rfl) (by first | exact rgX | assumption) (by exact small_one (by omega) (by omega) (by omega) (by omega)) (by exact rangeSize_nat _ _) lF' lN' (by rfl) (by omega) ?c1 ?c2 (fun k' t' J' tJ' h' tk' own' hlo' hhi' hJ1' hJ2' hM1' hM2' hoff' F' N' => ?_) (fun u' t' h' tk' F' N' => ?_)); (case c1 => walk_at "heb arith"); (case c2 => walk_at "heb arith"); (all_goals (try clear lF' lN')); (all_goals (try k_fold))))
local macro_rules | `(tactic| walk_at "InvEndN") => `(tactic| ((rename JdMark _ => jM'); (refine InvEndN.intro (by assumption) (by assumption) ⟨rfl, ⟨_, by with_unfolding_all rfl⟩, ?same⟩ (by rfl) (fun p hp => List.mem_append_left _ hp) (fun p hp => List.mem_append_right _ hp)); (case same => (intro z h1 h2; first | (simp only [if_neg h1, if_neg h2]; done) | (simp [h1, h2]; done)))))
local macro_rules | `(tactic| walk_at "CompSrcT") => `(tactic| (k_here; (with_reducible show LCt.CompSrcT _ _ _ _ _ _ _ _ _ _ _ _ _ (Value.ref (gateAddr _)) _); k_dflt (refine' le_srcK ?hG ?X ?hh ?F ?N ?hc ?hm ?hd ?hk ?hx ?hf ?a ?b ?d ?_; (case hG => assumption); (case X => k_asm); (case hh => rfl); (case F => k_asm); (case N => k_asm); (case hc => rfl); (case hm => k_mem); (case hd => k_asm); (case hk => intro; rfl); (case hx => intro; rfl); (case hf => intro; rfl); (case a => decide); (case b => decide); (case d => with_unfolding_all rfl)); intro D' ys' h' tk' F' N' o1' hI' hB'; (try simp only [LCg.Off1, and_true] at o1'); (try dsimp only)))
local macro_rules | `(tactic| walk_at "compareOp Eq str str") => `(tactic| ((with_reducible show wpAny _ _ (compareOp CmpOp.Eq (Value.str (Kd.str _) _) (Value.str _ _)) _ _ _); (refine' w_kind_ne ?n ?_; (case n => assumption))))
local macro_rules | `(tactic| walk_at "subscriptTail") => `(tactic| (k_here; (with_reducible show wpAny _ _ (subscriptTail _ _ (Value.ref _) (Value.str (Kd.str _) _)) _ _ _); k_dflt (refine' topItem_K ?F ?X ?l ?k (GatesAt.get ?g _) ?_; (case g => assumption); (case F => k_asm); (case X => k_asm); (case l => k_is); (case k => k_keys))))
local macro_rules | `(tactic| walk_at "call ref") => `(tactic| (k_here; (with_reducible show wpAny _ _ (PySem.call (Value.ref 49) [Value.int _ _]) _ _ _); k_dflt (first
  | (refine' use_leapT ?kD ?kl ?k1 ?k2 ?k3 ?k4 ?k5 ?kK ?kd ?ku ?_; (case kl => assumption); (case kD => assumption); (case k1 => k_asm); (case k2 => k_asm); (case k3 => k_asm); (case k4 => k_asm); (case k5 => k_asm); (case kK => first | exact rfl | assumption); (case kd => ktr_room); (case ku => ktr_units))
  | (refine' use_leapF ?kD ?kl ?k1 ?k2 ?k3 ?k4 ?k5 ?kK ?kd ?ku ?_; (case kl => assumption); (case kD => assumption); (case k1 => k_asm); (case k2 => k_asm); (case k3 => k_asm); (case k4 => k_asm); (case k5 => k_asm); (case kK => first | exact rfl | assumption); (case kd => ktr_room); (case ku => ktr_units))); intro h9 tk9 F9 N9; (try dsimp only); (try k_sweep); (try k_fold)))
local macro_rules | `(tactic| walk_at "storeName") => `(tactic| (k_here; (with_reducible show wpAny _ _ (storeName _ (Str.ofString "year") (Value.int _ _)) _ _ _); k_dflt (refine' store_gen (year_is _) ?F ?N ?_ ?a ?b; (case F => k_asm); (case N => k_asm); (case a => rfl); (case b => rfl)); intro yv9 hyv9 h' F' N'; (have hyl9 := hyv9.lo); (have hyh9 := hyv9.hi); (try k_sweep)))
local macro_rules | `(tactic| walk_at "storeName") => `(tactic| (k_here; (with_reducible show wpAny _ _ (storeName _ (Str.ofString "month") (Value.int _ _)) _ _ _); k_dflt ((first | refine' store_gen (month_is13 _) ?F ?N ?_ ?a ?b | refine' store_gen (month_is12 _) ?F ?N ?_ ?a ?b); (case F => k_asm); (case N => k_asm); (case a => rfl); (case b => rfl)); intro mv9 hmv9 h' F' N'; (have hml9 := hmv9.lo); (have hmh9 := hmv9.hi); (try k_sweep)))
local macro_rules | `(tactic| walk_at "storeName") => `(tactic| (k_here; (with_reducible show wpAny _ _ (storeName _ (Str.ofString "day") (Value.int _ _)) _ _ _); k_dflt (refine' store_gen (day_is _) ?F ?N ?_ ?a ?b; (case F => k_asm); (case N => k_asm); (case a => rfl); (case b => rfl)); intro dv9 hdv9 h' F' N'; (have hdl9 := hdv9.lo); (have hdh9 := hdv9.hi); (try k_sweep)))
local macro_rules | `(tactic| walk_at "storeName") => `(tactic| (k_here; (with_reducible show wpAny _ _ (storeName _ (Str.ofString "first") (Value.int _ _)) _ _ _); k_dflt (refine' store_as (first_as _) ?F ?N ?_ ?a ?b; (case F => k_asm); (case N => k_asm); (case a => rfl); (case b => rfl)); intro h' F' N'; (try k_sweep)))
local macro_rules | `(tactic| walk_at "storeName") => `(tactic| (k_here; (with_reducible show wpAny _ _ (storeName _ (Str.ofString "moon") _) _ _ _); (rename OwnOff _ _ => hof'); (with_reducible rename News _ _ _ _ => lN'); (refine' storeX_C ?F lN' ?c (UpdF.head (OwnOff.ne hof' (List.Mem.head _))) ?d ?_ ?a ?b; (case a => rfl); (case b => rfl); (case F => k_asm); (case c => rfl); (case d => k_asm)); (try clear lN'); intro h' o' F' N' d'; (try dsimp only at N'); (try k_sweep)))
local macro_rules | `(tactic| walk_at "call ref") => `(tactic| (k_here; (with_reducible show wpAny _ _ (PySem.call (Value.ref 145) [Value.int _ _]) _ _ _); k_dflt (refine' use_start ?kD ?k1 ?k2 ?k3 ?k4 ?k5 ?kK ?kd ?ku ?_; (case kD => assumption); (case k1 => k_asm); (case k2 => k_asm); (case k3 => k_asm); (case k4 => k_asm); (case k5 => k_asm); (case kK => first | exact rfl | assumption); (case kd => ktr_room); (case ku => ktr_units)); intro kd9 hkd9; (rename YearIs _ => hyi9); (have hfa9 := facts0 hkd9 hyi9.lo hyi9.hi); (have hmk9 := mark_of hkd9); (rcases kd_cases kd9 with hkl9 | hkn9) <;> (intro D9 t8 t9 c9 h9 tk9 F9 N9 l9; (first | (subst hkl9; (try dsimp only [kmObj, Kd.str] at N9); dsimp only [gateOf, limits, rowsK] at hfa9) | ((try dsimp only [kmObj] at N9); rw [rowsK_of hkn9] at hfa9; dsimp only [gateOf] at hfa9)); (try simp only [AllLt, and_true] at l9); (obtain ⟨hg09, hg19, hfm9, hyd9, ⟨htb9, htc9⟩, hyb9, hyc9⟩ := hfa9); (try dsimp only); (try k_sweep); (try k_fold))))
local macro_rules | `(tactic| walk_at "subscriptTail") => `(tactic| (k_here; (with_reducible show wpAny _ _ (subscriptTail (Expr.Name (Str.ofString "rows") _) _ (Value.ref _) (Value.int _ _)) _ _ _); k_dflt (refine' w_row (rs := rowsLonger) ?F ?R ?a ?b ?l ?_ ?hs; (case F => k_asm); (case R => assumption); (case a => walk_at "heb arith"); (case b => walk_at "heb arith"); (case l => rfl); (case hs => with_unfolding_all rfl)); intro b9 t9 u9 hT9; (try dsimp only)))
local macro_rules | `(tactic| walk_at "subscriptTail") => `(tactic| (k_here; (with_reducible show wpAny _ _ (subscriptTail (Expr.Name (Str.ofString "rows") _) _ (Value.ref 140) (Value.int _ _)) _ _ _); k_dflt (refine' w_row (rs := rowsShorter) ?F ?R ?a ?b ?l ?_ ?hs; (case F => k_asm); (case R => assumption); (case a => walk_at "heb arith"); (case b => walk_at "heb arith"); (case l => rfl); (case hs => with_unfolding_all rfl)); intro b9 t9 u9 hT9; (try dsimp only)))
local macro_rules | `(tactic| walk_at "subscriptTail") => `(tactic| (k_here; (with_reducible show wpAny _ _ (subscriptTail _ _ (Value.ref _) (Value.int 0 _)) _ _ _); k_dflt (refine' w_tup0 ?F ?T ?_ ?hs; (case F => k_asm); (case T => assumption); (case hs => with_unfolding_all rfl))))
local macro_rules | `(tactic| walk_at "subscriptTail") => `(tactic| (k_here; (with_reducible show wpAny _ _ (subscriptTail _ _ (Value.ref _) (Value.int 1 _)) _ _ _); k_dflt (refine' w_tup1 ?F ?T ?_ ?hs; (case F => k_asm); (case T => assumption); (case hs => with_unfolding_all rfl))))
local macro_rules | `(tactic| walk_at "subscriptTail BinOp") => `(tactic| (k_here; k_dflt (refine kba_turn (value' := PySem.Expr.Name (PySem.Str.ofString "_") ⟨0, 0, 0, 0⟩) (fun _ => rfl) ?_)))
local macro_rules | `(tactic| walk_at "exec For Name Call cons nil") => `(tactic| k_dflt (k_here; (rename LawMark _ _ => lM'); (rename Fr _ _ _ _ => lF'); (with_unfolding_all refine' For_invVF lF' ?k1 ?k2 ?_; (case k1 => exact rfl); (case k2 => exact rfl); k_whole)))
local macro_rules | `(tactic| walk_at "pyIter ref") => `(tactic| k_dflt ((with_reducible show wpAny _ _ (pyIter (Value.ref _)) (fun it s₂ => LoopAtV _ _ _ _ _ _ _ _ _ it s₂) _ _); (rename LawMark _ _ => lM'); (rename _ = yearKind _ => hkd'); (rename YearIs _ => hyi'); (rename MonthIs _ => hmi'); (rename DayIs _ => hdi'); (rename Fr _ _ _ _ => lF'); (rename News _ _ _ _ => lN'); (rename IsRange _ _ _ _ _ _ _ _ => rgX); (with_unfolding_all refine' law_loop lM' (by rfl) rgX lF' lN' ?hm ?hd (by rfl) (by rfl) (fun k' tk' M' tM' Fv' tF' Gv' tG' o' u' h' tkk' own' hk1' hk2' hM' hF' hG' hd' hoff' F' N' => ?_) (fun m' h' tk' nx' F' N' => ?_)); (case hd => assumption); (case hm => k_mem); (all_goals (try clear lF' lN')); rotate_left; (all_goals (try k_fold)); rotate_right; (have hf3 := facts3 hkd' hk1' hk2' hyi' hmi' hdi' hM' hF' hG'); (have hf2 := facts2 hkd' hk1' hk2' hyi' hmi' hdi' hM' hF' hG'); (first | (have hlp' := leap_in hkd' k') | (have hlp' := leap_out hkd' (by assumption) k')); (obtain ⟨hlq', hym'⟩ := hlp'); (obtain ⟨⟨hgl', hgh'⟩, ⟨hta', htb'⟩, ⟨hda', hdb'⟩, ⟨hja', hjb'⟩, hjc', hjd'⟩ := hf3); (rcases hf2 with ⟨hng', hw'⟩ | ⟨hng', hw'⟩) <;> (unfold TurnWay at hw'; (first | rw [rowsK_of (by assumption)] at hw' | dsimp only [limits, rowsK] at hw'); (obtain ⟨hX', hFk', hga', hgb', hyd', hjd', hGk'⟩ := hw'); (try k_fold))))
local macro_rules | `(tactic| walk_at "InvEndN") => `(tactic| k_dflt ((rename LawMark _ _ => lM'); (refine InvEndN.intro (by assumption) (by assumption) ⟨_, rfl, cell_as (by assumption) (by assumption), int_as (by with_unfolding_all rfl) rfl, int_as (by with_unfolding_all rfl) (by assumption), ?same⟩ (by rfl) (fun p hp => by rw [List.mem_singleton.mp hp]; k_mem) (by intro p hp; repeat (first | exact hp | apply List.Mem.tail))); (case same => (intro z h1 h2 h3 h4 h5 h6; first | (simp only [if_neg h1, if_neg h2, if_neg h3, if_neg h4, if_neg h5, if_neg h6]; done) | (simp [h1, h2, h3, h4, h5, h6]; done)))))


set_option maxHeartbeats 40000000 in
theorem PySem.Challenge.cw_ad5009_01_holds : PySem.Challenge.rw_ad5009_01.Holds := by
  w_on
  o_law
  k_head
  (case hw => w_witness2)
  w_strict (
    k_fill
    intro w s₀ s₁ mg mb G Y
    refine all_cuts (w := w) PySem.Challenge.pw_ad5009_01 (kIn_of Y) G.T ?cLeap ?cYM ?cD1 ?cD2 ?cJ7 ?cYD ?cML ?cMD ?cJD ?cSt ?cRl ?cRs ?cGa ?cGl ?rest
    case cLeap =>
      clear G Y
      refine ⟨?_⟩
      intro y ty news dp un gd cn cs a ccd cl outer A₀ base h₀ L m s Q E B F X N T hk hd hu hret
      w_top off
      refine wpAny_call ?_
      k_dflt cell_enter
      k_steps
      all_goals exact hret _ _ _ (congrArg Value.bool leap_eq) (by k_asm) (by k_asm)
    case cYM =>
      clear G Y
      intro hLeap
      refine ⟨?_⟩
      intro y ty news dp un gd cn cs a ccd cl outer A₀ base h₀ L m s Q E B F X N T hk hd hu hret
      w_top off
      refine wpAny_call ?_
      k_dflt cell_enter
      k_steps
      all_goals first
        | exact heb_endI hret (ym_a (by assumption)) (by k_asm) (by k_asm)
        | exact heb_endI hret (ym_b (by assumption)) (by k_asm) (by k_asm)
    case cD1 =>
      clear G Y
      refine ⟨?_⟩
      intro y ty hy0 hy1 news dp un gd cn cs a ccd cl outer A₀ base h₀ L m s Q E B F X N T hk hd hu hret
      w_top off
      refine wpAny_call ?_
      k_dflt cell_enter
      k_steps
      all_goals first
        | exact heb_endI hret (d1_up (by assumption)) (by k_asm) (by k_asm)
        | exact heb_endI hret (d1_no (by assumption)) (by k_asm) (by k_asm)
    case cD2 =>
      clear G Y
      intro hD1
      refine ⟨?_⟩
      intro y ty hy0 hy1 news dp un gd cn cs a ccd cl outer A₀ base h₀ L m s Q E B F X N T hk hd hu hret
      w_top off
      refine wpAny_call ?_
      k_dflt cell_enter
      k_steps
      all_goals first
        | exact heb_endI hret (d2_a (by assumption)) (by k_asm) (by k_asm)
        | exact heb_endI hret (d2_b (by assumption) (by assumption)) (by k_asm) (by k_asm)
        | exact heb_endI hret (d2_c (by assumption) (by assumption)) (by k_asm) (by k_asm)
    case cJ7 =>
      clear G Y
      intro hYM hD1 hD2
      refine ⟨?_⟩
      intro y ty t7 t1 hy0 hy1 news dp un gd cn cs a ccd cl outer A₀ base h₀ L m s Q E B F X N T hk hd hu hret
      have hb := D1_bounds (y := y) (by omega) (by omega)
      have hl := D1_low (y := y) (by omega)
      have h2 := D2_bounds y
      w_top off
      refine wpAny_call ?_
      k_dflt cell_enter
      k_steps
      all_goals exact heb_endF hret (by unfold T1; omega) (by k_asm) (by k_asm)
    case cYD =>
      clear G Y
      intro hJ7
      refine ⟨?_⟩
      intro y ty hy0 hy1 news dp un gd cn cs a ccd cl outer A₀ base h₀ L m s Q E B F X N T hk hd hu hret
      have hb := T1_bounds (y := y) (by omega) (by omega)
      have hl := T1_bounds (y := y + 1) (by omega) (by omega)
      w_top off
      refine wpAny_call ?_
      k_dflt cell_enter
      k_steps
      all_goals exact heb_endF hret (by unfold YD; omega) (by k_asm) (by k_asm)
    case cML =>
      clear G Y
      intro hLeap hYD
      have hLen := YD_len
      refine ⟨?_⟩
      intro y ty mo tm hy0 hy1 hm0 hm1 news dp un gd cn cs a ccd cl outer A₀ base h₀ L m s Q E B F X N T hk hd hu hret
      have hl := hLen y
      have hb : 353 ≤ YD y ∧ YD y ≤ 385 := by unfold Len at hl; omega
      w_top off
      refine wpAny_call ?_
      k_dflt cell_enter
      k_steps
      all_goals (refine heb_endI hret ?_ (by k_asm) (by first | k_asm | exact cb_drop (by assumption) (fun p hp => List.mem_cons_of_mem _ hp)))
      all_goals (simp only [List.any_cons, List.any_nil, Bool.or_eq_true, Bool.or_eq_false_iff, beq_iff_eq, beq_eq_false_iff_ne, Bool.or_false, ne_eq, Decidable.not_not] at *)
      all_goals (unfold ML)
      all_goals first
        | (rw [if_pos (by omega)]; done)
        | (rw [if_neg (by omega)]; first
          | (rw [if_pos (by first | omega | exact ⟨by omega, by assumption⟩ | exact ⟨by assumption, by assumption⟩)]; done)
          | (rw [if_neg (by first | omega | (intro h; exact absurd (by assumption) h.2) | (intro h; omega))]; first
            | (rw [if_pos (by first | omega | exact ⟨by omega, by omega⟩)]; done)
            | (rw [if_neg (by omega)]; first
              | (rw [if_pos (by first | omega | exact ⟨by omega, by omega⟩)]; done)
              | (rw [if_neg (by omega)]; done))))
    case cMD =>
      clear G Y
      intro hML
      refine ⟨?_⟩
      intro y ty mo tm hy0 hy1 hm0 hm1 news dp un gd cn cs a ccd cl outer A₀ base h₀ L m s Q E B F X N T hk hd hu hret
      w_top off
      refine wpAny_call ?_
      k_dflt cell_enter
      k_steps
      all_goals exact heb_endI hret rfl (by k_asm) (by k_asm)
    case cJD =>
      clear G Y
      intro hYM hD1 hD2 hMD
      refine ⟨?_⟩
      intro y ty mo tm d td hy0 hy1 hm0 hm1 hd0 hd1 news dp un gd cn cs a ccd cl outer A₀ base h₀ L m s Q E B F X N T hk hd hu hret
      have hb := D1_bounds (y := y) (by omega) (by omega)
      have hl := D1_low (y := y) (by omega)
      have h2 := D2_bounds y
      have hym : 12 ≤ YM y ∧ YM y ≤ 13 := by unfold YM; split <;> decide
      have hs1 := msum_bounds y 7 (YM y + 1 - 7).toNat
      have hs4 : (YM y + 1 - 7).toNat = (YM y - 6).toNat := by omega
      have hs2 := msum_bounds y 1 (mo - 1).toNat
      have hs3 := msum_bounds y 7 (mo - 7).toNat
      have hjm : JdMark y := ⟨trivial⟩
      w_top off
      refine wpAny_call ?_
      k_dflt cell_enter
      k_steps
      all_goals exact heb_endF hret (by unfold JD T1 OFF; (first | rw [if_pos (by assumption)] | rw [if_neg (by assumption)]); (try rw [hs4]); omega) (by k_asm) (by k_asm)
    case cSt =>
      clear G Y
      refine ⟨?_⟩
      intro y ty news dp un gd cn cs a ccd cl outer A₀ base h₀ L m s Q E B F X N T hk hd hu hret
      w_top off
      refine wpAny_call ?_
      k_dflt (refine' code_defC ?k1 ?k2 ?k3 ?k4 ?k5 ?kA ?kF ?kK ?k6 ?k7 ?k8 ?k9 ?kB ?kD ?_ ?c2 ?c3 ?c4; (case kA => exact rfl); (case kF => exact rfl); (case kK => assumption); (case k1 => k_asm); (case k2 => k_asm); (case k3 => k_asm); (case k4 => k_asm); (case k5 => k_asm); (case k6 => k_is); (case k7 => k_is); (case k8 => ktr_room); (case k9 => exact BindsTo.of_eq rfl); (case kB => exact rfl); (case kD => decide +kernel); (case c2 => exact rfl); (case c3 => exact rfl); (case c4 => exact rfl); k_whole; intro g' L' h' tk' cells' FG' F' N' Y' B' X' T' l1; k_cells Y'; (try simp only [List.cons_append, List.nil_append] at N'); (try dsimp only); (try k_lift B'); (try k_fold))
      k_steps
      all_goals first
        | (refine heb_endS hret .long (kind_a (by assumption)) (by k_asm) (by k_asm) (by k_mem) (moon_eq y) (by walk_at "heb sub") (by walk_at "heb lt"); done)
        | (refine heb_endS hret .ahead (kind_b (by assumption) (by assumption)) (by k_asm) (by k_asm) (by k_mem) (moon_eq y) (by walk_at "heb sub") (by walk_at "heb lt"); done)
        | (refine heb_endS hret .between (kind_c (by assumption) (by assumption) (by assumption)) (by k_asm) (by k_asm) (by k_mem) (moon_eq y) (by walk_at "heb sub") (by walk_at "heb lt"); done)
        | (refine heb_endS hret .behind (kind_d (by assumption) (by assumption) (by assumption)) (by k_asm) (by k_asm) (by k_mem) (moon_eq y) (by walk_at "heb sub") (by walk_at "heb lt"); done)
    case cRl =>
      clear G Y
      intro h X
      refine ⟨⟨[.ref 125, .ref 126, .ref 127, .ref 128, .ref 129, .ref 130, .ref 131], lstK X (by k_is), fun i hi => ?_⟩⟩
      have hi7 : i < 7 := hi
      rcases i with _ | _ | _ | _ | _ | _ | _ | i
      · exact ⟨125, _, _, rfl, tupK X (by k_is)⟩
      · exact ⟨126, _, _, rfl, tupK X (by k_is)⟩
      · exact ⟨127, _, _, rfl, tupK X (by k_is)⟩
      · exact ⟨128, _, _, rfl, tupK X (by k_is)⟩
      · exact ⟨129, _, _, rfl, tupK X (by k_is)⟩
      · exact ⟨130, _, _, rfl, tupK X (by k_is)⟩
      · exact ⟨131, _, _, rfl, tupK X (by k_is)⟩
      · omega
    case cRs =>
      clear G Y
      intro h X
      refine ⟨⟨[.ref 133, .ref 134, .ref 135, .ref 136, .ref 137, .ref 138, .ref 139], lstK X (by k_is), fun i hi => ?_⟩⟩
      have hi7 : i < 7 := hi
      rcases i with _ | _ | _ | _ | _ | _ | _ | i
      · exact ⟨133, _, _, rfl, tupK X (by k_is)⟩
      · exact ⟨134, _, _, rfl, tupK X (by k_is)⟩
      · exact ⟨135, _, _, rfl, tupK X (by k_is)⟩
      · exact ⟨136, _, _, rfl, tupK X (by k_is)⟩
      · exact ⟨137, _, _, rfl, tupK X (by k_is)⟩
      · exact ⟨138, _, _, rfl, tupK X (by k_is)⟩
      · exact ⟨139, _, _, rfl, tupK X (by k_is)⟩
      · omega
    case cGa =>
      clear G Y
      refine ⟨fun kd => ?_⟩
      cases kd <;> k_dflt k_is
    case cGl =>
      clear G Y
      refine ⟨fun h X kd => ?_⟩
      cases kd
      · exact ⟨_, lstK X (by k_dflt k_is), by rfl, by rfl, by decide⟩
      · exact ⟨_, lstK X (by k_dflt k_is), by rfl, by rfl, by decide⟩
      · exact ⟨_, lstK X (by k_dflt k_is), by rfl, by rfl, by decide⟩
      · exact ⟨_, lstK X (by k_dflt k_is), by rfl, by rfl, by decide⟩
    case rest =>
      intro hLeap hYM hJ7 hYD hJD hSt hRl hRs hGa hGl fa o pm cd doc dV kV ho hd hcd hD hmg hg args vals as hpre hlay hrd hwl hlo
      have KX := kIn_of Y
      k_behind G ho hd hcd hD hmg hpre hlay hrd hwl hlo cd
      all_goals (rename Frag.In _ _ => hX)
      all_goals (have hRl := hRl _ hX)
      all_goals (have hRs := hRs _ hX)
      all_goals (try k_fold)
      w_top off
      k_steps
      all_goals (try k_data)
      all_goals w_report)
