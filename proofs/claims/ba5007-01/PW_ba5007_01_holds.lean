import PyProof.Rows.All
import Wide.All
import OpenK.AllK
import Wide.FinOn
import Lean
import PySem.Challenge.RW_ba5007_01
open PySem PySem.W PyProof.Rows
set_option Elab.async false

namespace Mine
open PySem PySem.Float64

/-- the float of n halves -/
def H (n : Int) : UInt64 := ofFrac (decide (n < 0)) n.natAbs 2

theorem big_lt {W : Nat} (h : W ≤ 2 ^ 1200) : ¬ ((2 ^ 54 - 1) * 2 ^ 2045 ≤ 2 * W) := by
  have : 2 * 2 ^ 1200 < (2 ^ 54 - 1) * 2 ^ 2045 := by decide +kernel
  omega

theorem rep {n c : Nat} (hn : n < 2 ^ 53) (hc : 52 ≤ c) (hc2 : c ≤ 1140) : ∃ t, t < infMag ∧ V t = n * 2 ^ c := by
  by_cases h0 : n = 0
  · exact ⟨0, by decide, by rw [V_zero, h0, Nat.zero_mul]⟩
  · have h1 := Nat.log2_self_le h0
    have h2 := @Nat.lt_log2_self n
    generalize n.log2 = l at *
    have hl : l ≤ 52 := by
      refine Nat.le_of_lt_succ (Nat.lt_of_not_le fun h => ?_)
      have : 2 ^ 53 ≤ 2 ^ l := Nat.pow_le_pow_right (by decide) h
      omega
    refine ⟨(c - (52 - l)) * 2 ^ 52 + n * 2 ^ (52 - l), ?_, ?_⟩
    · have e : (2 : Nat) ^ (l + 1) * 2 ^ (52 - l) = 2 ^ 53 := by rw [← Nat.pow_add]; congr 1; omega
      have : n * 2 ^ (52 - l) < 2 ^ 53 := by rw [← e]; exact Nat.mul_lt_mul_of_pos_right h2 (Nat.two_pow_pos _)
      unfold infMag
      omega
    · have e : (2 : Nat) ^ (l + 1) * 2 ^ (52 - l) = 2 ^ 53 := by rw [← Nat.pow_add]; congr 1; omega
      have e' : (2 : Nat) ^ l * 2 ^ (52 - l) = 2 ^ 52 := by rw [← Nat.pow_add]; congr 1; omega
      have h3 : n * 2 ^ (52 - l) < 2 ^ 53 := by rw [← e]; exact Nat.mul_lt_mul_of_pos_right h2 (Nat.two_pow_pos _)
      have h4 : 2 ^ 52 ≤ n * 2 ^ (52 - l) := by rw [← e']; exact Nat.mul_le_mul_right _ h1
      rw [V_at (Nat.le_of_lt h3) (.inl h4), Nat.mul_assoc, ← Nat.pow_add]
      congr 2
      omega

theorem right_lt {r : UInt64} {neg : Bool} {W D : Nat} (h : Right r neg W D) (hD : 0 < D) (hW : W ≤ D * 2 ^ 1200) :
    ∃ t, r = pack neg t ∧ t < infMag ∧ ∀ t', dist W (D * V t) ≤ dist W (D * V t') := by
  obtain ⟨t, e, hle, hov, hn⟩ := h
  have ht : t < infMag := by
    refine Nat.lt_of_le_of_ne hle fun e => ?_
    have h1 := hov.mp e
    have h2 : D * (2 * 2 ^ 1200) < D * ((2 ^ 54 - 1) * 2 ^ 2045) := Nat.mul_lt_mul_of_pos_left (by decide +kernel) hD
    have h3 : D * (2 * 2 ^ 1200) = 2 * (D * 2 ^ 1200) := Nat.mul_left_comm _ _ _
    rw [h3] at h2
    exact absurd h1 (Nat.not_le.mpr (Nat.lt_of_le_of_lt (Nat.mul_le_mul_left 2 hW) h2))
  exact ⟨t, e, ht, fun t' => (hn ht t').1⟩

theorem right_uniq {r : UInt64} {neg : Bool} {W t : Nat} (h : Right r neg W 1) (hW : W ≤ 2 ^ 1200) (hV : V t = W) : r = pack neg t := by
  obtain ⟨t', rfl, _, hn⟩ := right_lt h (by decide) (by rw [Nat.one_mul]; exact hW)
  have h1 := hn t
  rw [hV, Nat.one_mul, Nat.one_mul] at h1
  have h2 : V t' = W := by unfold dist at h1; omega
  have h3 : t' = t := by
    rcases Nat.lt_trichotomy t' t with h | h | h
    · have := V_lt h; omega
    · exact h
    · have := V_lt h; omega
  rw [h3]

theorem p1073 : (2 : Nat) ^ 53 * 2 ^ 1073 ≤ 2 ^ 1200 := by rw [← Nat.pow_add]; exact Nat.pow_le_pow_right (by decide) (by decide)
theorem W_le {n : Nat} (h : n < 2 ^ 53) : n * 2 ^ 1073 ≤ 2 ^ 1200 := Nat.le_trans (Nat.mul_le_mul_right _ (Nat.le_of_lt h)) p1073

theorem H_right (n : Int) : Right (H n) (decide (n < 0)) (n.natAbs * 2 ^ 1073) 1 := by
  unfold H
  refine ofFrac_right (by decide) ?_ (by decide)
  rw [Nat.mul_one, show (1074 : Nat) = 1073 + 1 from rfl, Nat.pow_succ, Nat.mul_assoc]

theorem H_pack {n : Int} (h : n.natAbs < 2 ^ 53) : ∃ t, t < infMag ∧ V t = n.natAbs * 2 ^ 1073 ∧ H n = pack (decide (n < 0)) t := by
  obtain ⟨t, ht, hV⟩ := rep (c := 1073) h (by decide) (by decide)
  exact ⟨t, ht, hV, right_uniq (H_right n) (W_le h) hV⟩

theorem right_H {r : UInt64} {n : Int} (h : n.natAbs < 2 ^ 53) (hr : Right r (decide (n < 0)) (n.natAbs * 2 ^ 1073) 1) : r = H n := by
  obtain ⟨t, ht, hV, e⟩ := H_pack h
  rw [e]
  exact right_uniq hr (W_le h) hV

theorem H_dec {n : Int} (h : n.natAbs < 2 ^ 53) : ∃ m e, decode (H n) = .fin (decide (n < 0)) m e ∧ m * 2 ^ (e + 1074).toNat = n.natAbs * 2 ^ 1073 := by
  obtain ⟨t, ht, hV, e⟩ := H_pack h
  rw [e, ← hV]
  exact decode_pack _ ht

theorem sgn_int (n : Int) (K : Nat) : sgn (decide (n < 0)) (n.natAbs * K) = n * (K : Int) := by
  rw [sgn_mul]
  congr 1
  unfold sgn
  by_cases h : n < 0
  · rw [decide_eq_true h, if_pos rfl]; omega
  · rw [decide_eq_false h, if_neg (by decide)]; omega

theorem H_val {n : Int} (h : n.natAbs < 2 ^ 53) : val (H n) = n * ((2 ^ 1073 : Nat) : Int) := by
  obtain ⟨m, e, hd, hv⟩ := H_dec h
  rw [val_eq hd, hv, sgn_int]

theorem H_zero : H 0 = zero false := by
  have h := H_right 0
  rw [Int.natAbs_zero, Nat.zero_mul] at h
  exact right_uniq h (Nat.zero_le _) V_zero

theorem Kpos : (0 : Int) < ((2 ^ 1073 : Nat) : Int) := Int.ofNat_lt.mpr (Nat.two_pow_pos _)

theorem dec_mul {n : Int} {K : Int} (hK : 0 < K) : decide (n * K < 0) = decide (n < 0) := by
  refine decide_eq_decide.mpr ⟨fun h => ?_, fun h => Int.mul_neg_of_neg_of_pos h hK⟩
  by_cases h2 : n < 0
  · exact h2
  · have := Int.mul_nonneg (show 0 ≤ n by omega) (Int.le_of_lt hK)
    omega

theorem add_H {a b : Int} (ha : a.natAbs < 2 ^ 53) (hb : b.natAbs < 2 ^ 53) (hc : (a + b).natAbs < 2 ^ 53) : add (H a) (H b) = H (a + b) := by
  obtain ⟨m, e, hd, _⟩ := H_dec ha
  obtain ⟨k, f, hd', _⟩ := H_dec hb
  have h := add_right hd hd'
  have hs : val (H a) + val (H b) = (a + b) * ((2 ^ 1073 : Nat) : Int) := by rw [H_val ha, H_val hb, Int.add_mul]
  rw [hs] at h
  by_cases h0 : a + b = 0
  · rw [h.1 (by rw [h0, Int.zero_mul]), h0, H_zero]
    have : (decide (a < 0) && decide (b < 0)) = false := by
      by_cases h1 : a < 0
      · rw [decide_eq_true h1, decide_eq_false (by omega)]; rfl
      · rw [decide_eq_false h1]; rfl
    rw [this]
  · have h1 := h.2 (fun e => by
      rcases Int.mul_eq_zero.mp e with e | e
      · exact h0 e
      · exact Int.ne_of_gt Kpos e)
    rw [dec_mul Kpos, Int.natAbs_mul, Int.natAbs_natCast] at h1
    exact right_H hc h1

theorem sub_H {a b : Int} (ha : a.natAbs < 2 ^ 53) (hb : b.natAbs < 2 ^ 53) (hc : (a - b).natAbs < 2 ^ 53) : sub (H a) (H b) = H (a - b) := by
  obtain ⟨m, e, hd, _⟩ := H_dec ha
  obtain ⟨k, f, hd', _⟩ := H_dec hb
  have h := sub_right hd hd'
  have hs : val (H a) - val (H b) = (a - b) * ((2 ^ 1073 : Nat) : Int) := by rw [H_val ha, H_val hb, Int.sub_mul]
  rw [hs] at h
  by_cases h0 : a - b = 0
  · rw [h.1 (by rw [h0, Int.zero_mul]), h0, H_zero]
    have : (decide (a < 0) && !decide (b < 0)) = false := by
      by_cases h1 : a < 0
      · rw [decide_eq_true h1, decide_eq_true (show b < 0 by omega)]; rfl
      · rw [decide_eq_false h1]; rfl
    rw [this]
  · have h1 := h.2 (fun e => by
      rcases Int.mul_eq_zero.mp e with e | e
      · exact h0 e
      · exact Int.ne_of_gt Kpos e)
    rw [dec_mul Kpos, Int.natAbs_mul, Int.natAbs_natCast] at h1
    exact right_H hc h1

theorem p1074 : (2 : Nat) ^ 1074 = 2 * 2 ^ 1073 := by rw [show (1074 : Nat) = 1073 + 1 from rfl, Nat.pow_succ, Nat.mul_comm]

theorem ofInt_H {i : Int} (h : i.natAbs < 2 ^ 52) : ofInt i = H (2 * i) := by
  have h1 := ofInt_right i
  refine right_H (by omega) ?_
  have e : decide (2 * i < 0) = decide (i < 0) := decide_eq_decide.mpr (by omega)
  rw [e, show (2 * i).natAbs = 2 * i.natAbs by omega, show 2 * i.natAbs * 2 ^ 1073 = i.natAbs * 2 ^ 1074 by rw [p1074, Nat.mul_comm 2 i.natAbs, Nat.mul_assoc]]
  exact h1

/-- a product by a positive int -/
theorem mul_H {a b : Int} (hb0 : 0 < b) (ha : a.natAbs < 2 ^ 53) (hb : b.natAbs < 2 ^ 52) (hc : (a * b).natAbs < 2 ^ 53) : mul (H a) (ofInt b) = H (a * b) := by
  rw [ofInt_H hb]
  have hb' : (2 * b).natAbs < 2 ^ 53 := by omega
  obtain ⟨m, e, hd, _⟩ := H_dec ha
  obtain ⟨k, f, hd', _⟩ := H_dec hb'
  have h := mul_right hd hd'
  rw [H_val ha, H_val hb', Int.natAbs_mul, Int.natAbs_mul, Int.natAbs_natCast] at h
  have e2 : (decide (a < 0) != decide (2 * b < 0)) = decide (a * b < 0) := by
    rw [decide_eq_false (show ¬ 2 * b < 0 by omega), dec_mul hb0]
    cases decide (a < 0) <;> rfl
  rw [e2] at h
  refine right_H hc ?_
  obtain ⟨t, r1, r2, r3, r4⟩ := h
  have sc : a.natAbs * 2 ^ 1073 * ((2 * b).natAbs * 2 ^ 1073) = 2 ^ 1074 * ((a * b).natAbs * 2 ^ 1073) := by
    rw [show (2 * b).natAbs = 2 * b.natAbs by omega, Int.natAbs_mul, p1074]
    generalize (2 : Nat) ^ 1073 = Z
    ac_rfl
  have hp : 0 < 2 ^ 1074 := Nat.two_pow_pos _
  rw [sc] at r3 r4
  generalize (2 : Nat) ^ 1074 = K at *
  generalize (a * b).natAbs * 2 ^ 1073 = W at *
  refine ⟨t, r1, r2, ?_, fun ht t' => ?_⟩
  · rw [Nat.mul_left_comm 2 K W] at r3
    rw [Nat.one_mul]
    exact r3.trans ⟨fun h => Nat.le_of_mul_le_mul_left h hp, fun h => Nat.mul_le_mul_left _ h⟩
  · have := r4 ht t'
    rw [dist_mul, dist_mul] at this
    rw [Nat.one_mul, Nat.one_mul]
    exact ⟨Nat.le_of_mul_le_mul_left this.1 hp, fun h1 h2 => this.2 h1 (by rw [h2])⟩

theorem compare_mul {a b K : Int} (hK : 0 < K) : compare (a * K) (b * K) = compare a b := by
  rcases Int.lt_trichotomy a b with h | h | h
  · rw [Int.compare_eq_lt.mpr h, Int.compare_eq_lt.mpr (Int.mul_lt_mul_of_pos_right h hK)]
  · subst h; simp
  · rw [Int.compare_eq_gt.mpr h, Int.compare_eq_gt.mpr (Int.mul_lt_mul_of_pos_right h hK)]

theorem cmp_H {a b : Int} (ha : a.natAbs < 2 ^ 53) (hb : b.natAbs < 2 ^ 53) : cmp (H a) (H b) = some (compare a b) := by
  obtain ⟨m, e, hd, _⟩ := H_dec ha
  obtain ⟨k, f, hd', _⟩ := H_dec hb
  rw [cmp_right hd hd', H_val ha, H_val hb, compare_mul Kpos]

theorem cmpInt_H {a : Int} (ha : a.natAbs < 2 ^ 53) (i : Int) : cmpInt (H a) i = some (compare a (2 * i)) := by
  obtain ⟨m, e, hd, _⟩ := H_dec ha
  rw [cmpInt_right hd, H_val ha]
  have e : (i : Int) * 2 ^ 1074 = 2 * i * ((2 ^ 1073 : Nat) : Int) := by
    rw [show (1074 : Nat) = 1073 + 1 from rfl, Int.pow_succ, Int.natCast_pow]
    show i * ((2 : Int) ^ 1073 * 2) = 2 * i * (2 : Int) ^ 1073
    generalize (2 : Int) ^ 1073 = Z
    ac_rfl
  rw [e, compare_mul Kpos]

/-- a float that lies at f or above, and below f + 1 by more than a millionth -/
def Nr (x : UInt64) (f : Nat) : Prop :=
  ∃ m e, decode x = .fin false m e ∧ f * 2 ^ 1074 ≤ m * 2 ^ (e + 1074).toNat ∧ m * 2 ^ (e + 1074).toNat ≤ ((f + 1) * 2 ^ 20 - 1) * 2 ^ 1054

theorem p1054 : (2 : Nat) ^ 1074 = 2 ^ 20 * 2 ^ 1054 := by rw [← Nat.pow_add]

theorem floor_of {x : UInt64} {f m : Nat} {e : Int} (hd : decode x = .fin false m e) (lo : f * 2 ^ 1074 ≤ m * 2 ^ (e + 1074).toNat) (hi : m * 2 ^ (e + 1074).toNat < (f + 1) * 2 ^ 1074) : floorOf false m e = (f : Int) := by
  have he := decode_ge hd
  unfold floorOf sgn
  simp only [Bool.false_eq_true, if_false]
  split
  · rename_i h
    have e1 : (e + 1074).toNat = e.toNat + 1074 := by omega
    rw [e1, Nat.pow_add, ← Nat.mul_assoc] at lo hi
    have h1 := Nat.le_of_mul_le_mul_right lo (Nat.two_pow_pos _)
    have h2 := Nat.lt_of_mul_lt_mul_right hi
    have h3 : m * 2 ^ e.toNat = f := by omega
    rw [← h3, Int.natCast_mul, Int.natCast_pow]
    rfl
  · rename_i h
    have e1 : (1074 : Nat) = (-e).toNat + (e + 1074).toNat := by omega
    have lo' : f * 2 ^ (-e).toNat * 2 ^ (e + 1074).toNat ≤ m * 2 ^ (e + 1074).toNat := by
      rw [Nat.mul_assoc, ← Nat.pow_add, ← e1]; exact lo
    have hi' : m * 2 ^ (e + 1074).toNat < (f + 1) * 2 ^ (-e).toNat * 2 ^ (e + 1074).toNat := by
      rw [Nat.mul_assoc, ← Nat.pow_add, ← e1]; exact hi
    have h1 := Nat.le_of_mul_le_mul_right lo' (Nat.two_pow_pos _)
    have h2 := Nat.lt_of_mul_lt_mul_right hi'
    have hp : 0 < 2 ^ (-e).toNat := Nat.two_pow_pos _
    rw [show ((2 : Int) ^ (-e).toNat) = ((2 ^ (-e).toNat : Nat) : Int) by rw [Int.natCast_pow]; rfl]
    generalize (2 : Nat) ^ (-e).toNat = K at *
    rw [Int.fdiv_eq_ediv_of_nonneg _ (by omega), ← Int.natCast_ediv]
    congr 1
    refine Nat.div_eq_of_lt_le h1 h2

theorem Nr.floor {x : UInt64} {f : Nat} (h : Nr x f) : PySem.Flt.toInt floorOf x = (f : Int) := by
  obtain ⟨m, e, hd, lo, hi⟩ := h
  rw [PySem.Flt.toInt_fin hd]
  refine floor_of hd lo (Nat.lt_of_le_of_lt hi ?_)
  rw [p1054, ← Nat.mul_assoc]
  exact Nat.mul_lt_mul_of_pos_right (by omega) (Nat.two_pow_pos _)
theorem fin_isFinite {x : UInt64} {s : Bool} {m : Nat} {e : Int} (h : decode x = .fin s m e) : isFinite x = true := by unfold isFinite; rw [h]

theorem half_bounds {n : Nat} : (n / 2) * 2 ^ 1074 ≤ n * 2 ^ 1073 ∧ n * 2 ^ 1073 < (n / 2 + 1) * 2 ^ 1074 := by
  rw [p1074, ← Nat.mul_assoc, ← Nat.mul_assoc]
  exact ⟨Nat.mul_le_mul_right _ (by omega), Nat.mul_lt_mul_of_pos_right (by omega) (Nat.two_pow_pos _)⟩

theorem floor_H {n : Int} (h0 : 0 ≤ n) (h : n.natAbs < 2 ^ 53) : PySem.Flt.toInt floorOf (H n) = n / 2 := by
  obtain ⟨m, e, hd, hv⟩ := H_dec h
  rw [decide_eq_false (by omega)] at hd
  rw [PySem.Flt.toInt_fin hd, floor_of (f := n.natAbs / 2) hd (by rw [hv]; exact half_bounds.1) (by rw [hv]; exact half_bounds.2)]
  omega
theorem trunc_H {n : Int} (h0 : 0 ≤ n) (h : n.natAbs < 2 ^ 53) : PySem.Flt.toInt truncOf (H n) = n / 2 := by
  obtain ⟨m, e, hd, hv⟩ := H_dec h
  rw [decide_eq_false (by omega)] at hd
  rw [← floor_H h0 h, PySem.Flt.toInt_fin hd, PySem.Flt.toInt_fin hd]
  rfl

theorem nr_of_right {r : UInt64} {W D f : Nat} (h : Right r false W D) (hD : 0 < D) (hf : f < 2 ^ 32) (lo : D * (f * 2 ^ 1074) ≤ W) (hi : W ≤ D * (((f + 1) * 2 ^ 20 - 1) * 2 ^ 1054)) : Nr r f := by
  have hW : W ≤ D * 2 ^ 1200 := by
    refine Nat.le_trans hi (Nat.mul_le_mul_left _ ?_)
    have : (f + 1) * 2 ^ 20 - 1 ≤ 2 ^ 53 := by omega
    refine Nat.le_trans (Nat.mul_le_mul_right _ this) ?_
    rw [← Nat.pow_add]
    exact Nat.pow_le_pow_right (by decide) (by decide)
  obtain ⟨t, e, ht, hn⟩ := right_lt h hD hW
  obtain ⟨t1, _, hV1⟩ := rep (n := f) (c := 1074) (by omega) (by decide) (by decide)
  obtain ⟨t2, _, hV2⟩ := rep (n := (f + 1) * 2 ^ 20 - 1) (c := 1054) (by omega) (by decide) (by decide)
  obtain ⟨m, e', hd, hv⟩ := decode_pack false ht
  rw [e]
  refine ⟨m, e', hd, ?_, ?_⟩
  · rw [hv]
    refine Nat.le_of_not_lt fun hlt => ?_
    have h1 := hn t1
    rw [hV1] at h1
    have h2 : D * V t < D * (f * 2 ^ 1074) := Nat.mul_lt_mul_of_pos_left hlt hD
    generalize D * (f * 2 ^ 1074) = X at *
    generalize D * V t = Y at *
    unfold dist at h1
    omega
  · rw [hv]
    refine Nat.le_of_not_lt fun hlt => ?_
    have h1 := hn t2
    rw [hV2] at h1
    have h2 : D * (((f + 1) * 2 ^ 20 - 1) * 2 ^ 1054) < D * V t := Nat.mul_lt_mul_of_pos_left hlt hD
    generalize D * (((f + 1) * 2 ^ 20 - 1) * 2 ^ 1054) = X at *
    generalize D * V t = Y at *
    unfold dist at h1
    omega

/-- a quotient a / b, rounded -/
theorem nr_quot {r : UInt64} {W D a b : Nat} (h : Right r false W D) (hD : 0 < D) (hb : 0 < b) (hb2 : b ≤ 2 ^ 20) (ha : a / b < 2 ^ 32) (hW : W * b = a * 2 ^ 1074 * D) : Nr r (a / b) := by
  have h1 := Nat.div_add_mod a b
  have h2 := Nat.mod_lt a hb
  generalize a / b = f at *
  generalize a % b = g at *
  refine nr_of_right h hD ha ?_ ?_
  · refine Nat.le_of_mul_le_mul_right (c := b) ?_ hb
    rw [hW]
    generalize (2 : Nat) ^ 1074 = Z
    rw [show D * (f * Z) * b = b * f * (Z * D) by ac_rfl, Nat.mul_assoc a Z D]
    exact Nat.mul_le_mul_right _ (by omega)
  · refine Nat.le_of_mul_le_mul_right (c := b) ?_ hb
    rw [hW, p1054]
    generalize (2 : Nat) ^ 1054 = Z
    generalize hY : (f + 1) * 2 ^ 20 - 1 = Y
    rw [show a * (2 ^ 20 * Z) * D = a * 2 ^ 20 * (Z * D) by ac_rfl, show D * (Y * Z) * b = b * Y * (Z * D) by ac_rfl, ← hY]
    clear hW
    refine Nat.mul_le_mul_right _ ?_
    rw [Nat.mul_sub, Nat.mul_one, ← Nat.mul_assoc, Nat.mul_add, Nat.mul_one]
    omega

theorem nr_ofFrac {a b : Nat} (hb : 0 < b) (hb2 : b ≤ 2 ^ 20) (ha : a / b < 2 ^ 32) : Nr (ofFrac false a b) (a / b) :=
  nr_quot (W := a * 2 ^ 1074) (D := b) (ofFrac_right hb rfl hb) hb hb hb2 ha rfl

theorem nr_div {a b : Int} (ha0 : 0 ≤ a) (hb0 : 0 < b) (ha : a.natAbs < 2 ^ 53) (hb : b ≤ 2 ^ 18) (hq : a / (2 * b) < 2 ^ 32) : Nr (div (H a) (ofInt b)) (a / (2 * b)).toNat := by
  rw [ofInt_H (by omega)]
  have hb' : (2 * b).natAbs < 2 ^ 53 := by omega
  obtain ⟨m, e, hd, _⟩ := H_dec ha
  obtain ⟨k, f, hd', hk⟩ := H_dec hb'
  have hk0 : k ≠ 0 := by
    intro h
    rw [h, Nat.zero_mul] at hk
    have := Nat.mul_pos (show 0 < (2 * b).natAbs by omega) (Nat.two_pow_pos 1073)
    omega
  have h := div_right hd hd' hk0
  rw [H_val ha, H_val hb', Int.natAbs_mul, Int.natAbs_mul, Int.natAbs_natCast, decide_eq_false (show ¬ a < 0 by omega), decide_eq_false (show ¬ 2 * b < 0 by omega)] at h
  have e1 : (a / (2 * b)).toNat = a.natAbs / (2 * b).natAbs := by
    obtain ⟨x, rfl⟩ := Int.eq_ofNat_of_zero_le ha0
    obtain ⟨y, rfl⟩ := Int.eq_ofNat_of_zero_le (show 0 ≤ b by omega)
    have : (2 * (y : Int)).natAbs = 2 * y := by omega
    rw [this, show (2 * (y : Int)) = ((2 * y : Nat) : Int) by omega, ← Int.natCast_ediv, Int.toNat_natCast, Int.natAbs_natCast]
  have e2 : a.natAbs / (2 * b).natAbs < 2 ^ 32 := by rw [← e1]; omega
  rw [e1]
  refine nr_quot h (Nat.mul_pos (by omega) (Nat.two_pow_pos _)) (by omega) (by omega) e2 ?_
  generalize (2 : Nat) ^ 1074 = Z
  generalize (2 : Nat) ^ 1073 = Z'
  ac_rfl

theorem nr_zero : Nr (zero false) 0 := by
  refine ⟨0, -1074, by with_unfolding_all rfl, ?_, ?_⟩
  · rw [Nat.zero_mul, Nat.zero_mul]; exact Nat.le_refl _
  · rw [Nat.zero_mul]; exact Nat.zero_le _

theorem cast_top (g : Nat) : (((g + 1) * 2 ^ 20 - 1 : Nat) : Int) = ((g : Int) + 1) * 2 ^ 20 - 1 := by omega
theorem na_lo {S : Int} {X : Nat} (h0 : 0 ≤ S) (h : (X : Int) ≤ S) : X ≤ S.natAbs := by omega
theorem na_up {S : Int} {X : Nat} (h0 : 0 ≤ S) (h : S ≤ (X : Int)) : S.natAbs ≤ X := by omega
theorem top_eq {f g : Nat} {i : Int} (h : (f : Int) + i = g) : ((g : Int) + 1) * 2 ^ 20 - 1 = ((f : Int) + 1) * 2 ^ 20 - 1 + i * ((2 ^ 20 : Nat) : Int) := by
  show _ = _ + i * 1048576
  omega
theorem nr_add {x : UInt64} {f : Nat} {i : Int} (h : Nr x f) (hi : i.natAbs < 2 ^ 20) (hf : f < 2 ^ 31) (h0 : 0 ≤ (f : Int) + i) : Nr (add x (ofInt i)) ((f : Int) + i).toNat := by
  rw [ofInt_H (by omega)]
  obtain ⟨m, e, hd, lo, up⟩ := h
  have hi' : (2 * i).natAbs < 2 ^ 53 := by omega
  obtain ⟨k, f', hd', _⟩ := H_dec hi'
  have h := add_right hd hd'
  have hs : val x + val (H (2 * i)) = ((m * 2 ^ (e + 1074).toNat : Nat) : Int) + i * ((2 ^ 1074 : Nat) : Int) := by
    rw [H_val hi', val_eq hd, p1074]
    congr 1
    rw [Int.natCast_mul 2]
    generalize ((2 ^ 1073 : Nat) : Int) = Z
    show 2 * i * Z = i * (2 * Z)
    ac_rfl
  rw [hs] at h
  obtain ⟨g, hg⟩ := Int.eq_ofNat_of_zero_le h0
  have hlo : (g : Int) * ((2 ^ 1074 : Nat) : Int) ≤ ((m * 2 ^ (e + 1074).toNat : Nat) : Int) + i * ((2 ^ 1074 : Nat) : Int) := by
    rw [← hg, Int.add_mul, ← Int.natCast_mul]
    exact Int.add_le_add_right (Int.ofNat_le.mpr lo) _
  have hup : ((m * 2 ^ (e + 1074).toNat : Nat) : Int) + i * ((2 ^ 1074 : Nat) : Int) ≤ ((((g + 1) * 2 ^ 20 - 1) * 2 ^ 1054 : Nat) : Int) := by
    have h1 := Int.ofNat_le.mpr up
    have h2 : ((((g + 1) * 2 ^ 20 - 1) * 2 ^ 1054 : Nat) : Int) = ((((f + 1) * 2 ^ 20 - 1) * 2 ^ 1054 : Nat) : Int) + i * ((2 ^ 1074 : Nat) : Int) := by
      rw [p1054, Int.natCast_mul, Int.natCast_mul, Int.natCast_mul (2 ^ 20), ← Int.mul_assoc, ← Int.add_mul]
      congr 1
      rw [cast_top, cast_top]
      exact top_eq hg
    rw [h2]
    exact Int.add_le_add_right h1 _
  rw [hg]
  show Nr _ g
  generalize ((m * 2 ^ (e + 1074).toNat : Nat) : Int) + i * ((2 ^ 1074 : Nat) : Int) = S at *
  have hS0 : 0 ≤ S := by
    exact Int.le_trans (Int.mul_nonneg (Int.natCast_nonneg g) (Int.natCast_nonneg (2 ^ 1074))) hlo
  by_cases hz : S = 0
  · rw [h.1 hz]
    have hgz : g = 0 := by
      rcases Nat.eq_zero_or_pos g with h | h
      · exact h
      · have : (0 : Int) < (g : Int) * ((2 ^ 1074 : Nat) : Int) := Int.mul_pos (Int.ofNat_lt.mpr h) (Int.ofNat_lt.mpr (Nat.two_pow_pos 1074))
        have := Int.lt_of_lt_of_le this hlo
        omega
    rw [hgz]
    exact nr_zero
  · have h1 := h.2 hz
    rw [decide_eq_false (by omega)] at h1
    have hlo' : g * 2 ^ 1074 ≤ S.natAbs := by
      rw [← Int.natCast_mul] at hlo
      exact na_lo hS0 hlo
    have hup' : S.natAbs ≤ ((g + 1) * 2 ^ 20 - 1) * 2 ^ 1054 := na_up hS0 hup
    refine nr_of_right h1 (by decide) (by omega) (by rw [Nat.one_mul]; exact hlo') (by rw [Nat.one_mul]; exact hup')

theorem Nr.fin {x : UInt64} {f : Nat} (h : Nr x f) : isFinite x = true := by
  obtain ⟨m, e, hd, _⟩ := h
  exact fin_isFinite hd
theorem H_fin {n : Int} (h : n.natAbs < 2 ^ 53) : isFinite (H n) = true := by
  obtain ⟨m, e, hd, _⟩ := H_dec h
  exact fin_isFinite hd

theorem fmod_H {a b : Int} (ha0 : 0 ≤ a) (hb0 : 0 < b) (ha : a.natAbs < 2 ^ 53) (hb : b.natAbs < 2 ^ 53) : fmod (H a) (H b) = H (a % b) := by
  obtain ⟨m, e, hd, hm⟩ := H_dec ha
  obtain ⟨k, f, hd', hk⟩ := H_dec hb
  have he := decode_ge hd
  have hf := decode_ge hd'
  have hk0 : k ≠ 0 := by
    intro h
    rw [h, Nat.zero_mul] at hk
    have := Nat.mul_pos (show 0 < b.natAbs by omega) (Nat.two_pow_pos 1073)
    omega
  rw [decide_eq_false (show ¬ a < 0 by omega)] at hd
  rw [decide_eq_false (show ¬ b < 0 by omega)] at hd'
  have h1 : fmod (H a) (H b) = ofBin false (m * 2 ^ (e - min e f).toNat % (k * 2 ^ (f - min e f).toNat)) (min e f) := by
    unfold fmod
    rw [hd, hd']
    simp only [align, sgn]
    rw [if_neg (by simpa using hk0)]
    rfl
  have hr : (a % b).natAbs = a.natAbs % b.natAbs := by
    obtain ⟨x, rfl⟩ := Int.eq_ofNat_of_zero_le ha0
    obtain ⟨y, rfl⟩ := Int.eq_ofNat_of_zero_le (show 0 ≤ b by omega)
    rw [← Int.natCast_emod]
    rfl
  have hr0 : 0 ≤ a % b := Int.emod_nonneg _ (by omega)
  have hlt : (a % b).natAbs < 2 ^ 53 := by
    have := Int.emod_lt_of_pos a hb0
    omega
  refine right_H hlt ?_
  rw [decide_eq_false (show ¬ a % b < 0 by omega), h1, hr, show a.natAbs % b.natAbs * 2 ^ 1073 = (m * 2 ^ (e - min e f).toNat % (k * 2 ^ (f - min e f).toNat)) * 2 ^ (min e f + 1074).toNat by
    rw [← Nat.mul_mod_mul_right, ← Nat.mul_mod_mul_right, Nat.mul_assoc, Nat.mul_assoc, ← Nat.pow_add, ← Nat.pow_add]
    rw [show (e - min e f).toNat + (min e f + 1074).toNat = (e + 1074).toNat by omega, show (f - min e f).toNat + (min e f + 1074).toNat = (f + 1074).toNat by omega, hm, hk]]
  exact ofBin_right (by omega)

theorem isZero_H {n : Int} (h : n.natAbs < 2 ^ 53) : isZero (H n) = decide (n = 0) := by
  obtain ⟨m, e, hd, hm⟩ := H_dec h
  have hp : 0 < 2 ^ (e + 1074).toNat := Nat.two_pow_pos _
  have hq : (0 : Nat) < 2 ^ 1073 := Nat.two_pow_pos _
  by_cases hn : n = 0
  · subst hn
    have : m = 0 := by
      rw [Int.natAbs_zero, Nat.zero_mul] at hm
      rcases Nat.mul_eq_zero.mp hm with h | h
      · exact h
      · omega
    subst this
    unfold isZero
    rw [hd]
    rfl
  · have : m ≠ 0 := by
      intro h
      rw [h, Nat.zero_mul] at hm
      have := Nat.mul_pos (show 0 < n.natAbs by omega) hq
      omega
    rw [decide_eq_false hn]
    unfold isZero
    rw [hd]
    cases m with
    | zero => exact absurd rfl this
    | succ m => rfl

theorem mod_H {a b : Int} (ha0 : 0 ≤ a) (hb0 : 0 < b) (ha : a.natAbs < 2 ^ 53) (hb : b.natAbs < 2 ^ 52) : (divmod (H a) (ofInt b)).2 = H (a % (2 * b)) := by
  rw [ofInt_H hb]
  have hb' : (2 * b).natAbs < 2 ^ 53 := by omega
  have hr0 : 0 ≤ a % (2 * b) := Int.emod_nonneg _ (by omega)
  have hr1 := Int.emod_lt_of_pos a (show 0 < 2 * b by omega)
  have hz := isZero_H (n := a % (2 * b)) (by omega)
  have e1 : lt (H (2 * b)) (zero false) = false := by unfold lt; rw [← H_zero, cmp_H hb' (by decide), Int.compare_eq_gt.mpr (by omega)]; rfl
  have e2 : lt (H (a % (2 * b))) (zero false) = false := by
    unfold lt
    rw [← H_zero, cmp_H (by omega) (by decide)]
    rcases Int.lt_trichotomy (a % (2 * b)) 0 with h | h | h
    · omega
    · rw [h]; rfl
    · rw [Int.compare_eq_gt.mpr h]; rfl
  unfold divmod
  simp only [fmod_H ha0 (show 0 < 2 * b by omega) ha hb', hz, e1, e2]
  by_cases h0 : a % (2 * b) = 0
  · rw [if_pos (by rw [decide_eq_true h0])]
    rw [h0]
    obtain ⟨t, ht, hV, e⟩ := H_pack hb'
    rw [H_zero]
    show copysign (zero false) (H (2 * b)) = _
    have hs : signBit (H (2 * b)) = false := by
      rw [e, decide_eq_false (show ¬ 2 * b < 0 by omega)]
      unfold signBit
      have hi : infMag < 2 ^ 63 := by decide
      rw [pack_toNat false (t := t) (by omega)]
      simp only [Bool.false_eq_true, if_false, Nat.zero_add]
      rw [Nat.div_eq_of_lt (by omega)]
      rfl
    unfold copysign
    rw [hs]
    decide +kernel
  · rw [if_neg (by rw [decide_eq_false h0]; decide)]
    rw [if_neg (by decide)]

theorem epoch_H : (0x413a445180000000 : UInt64) = H 3442851 := by
  unfold H
  decide +kernel
theorem half_H : (0x3fe0000000000000 : UInt64) = H 1 := by
  unfold H
  decide +kernel
end Mine
namespace Mine
open PySem.Float64

/-- a float near an int from above -/
def NrI (x : UInt64) (f : Int) : Prop := 0 ≤ f ∧ f < 2 ^ 31 ∧ Nr x f.toNat
theorem nat1023 {n : Nat} (h : n < 2 ^ 50) : n < 2 ^ 1023 := Nat.lt_of_lt_of_le h (Nat.pow_le_pow_right (by decide) (by decide))
theorem inf_no {i : Int} (h : i.natAbs < 2 ^ 50) : ¬ isInf (ofInt i) = true := ofInt_fits (nat1023 h)
theorem zero_no {i : Int} (h : i ≠ 0) : ¬ isZero (ofInt i) = true := fun e => h ((PySem.Flt.isZero_ofInt i).mp e)
theorem cmp_lt_dec {a b : Int} : (some (compare a b) == some Ordering.lt) = decide (a < b) := by
  rcases Int.lt_trichotomy a b with h | h | h
  · rw [Int.compare_eq_lt.mpr h, decide_eq_true h]; rfl
  · subst h
    rw [decide_eq_false (by omega), Int.compare_eq_eq.mpr rfl]; rfl
  · rw [Int.compare_eq_gt.mpr h, decide_eq_false (by omega)]; rfl
theorem cmp_eq_dec {a b : Int} : (some (compare a b) == some Ordering.eq) = decide (a = b) := by
  rcases Int.lt_trichotomy a b with h | h | h
  · rw [Int.compare_eq_lt.mpr h, decide_eq_false (by omega)]; rfl
  · subst h
    rw [decide_eq_true rfl, Int.compare_eq_eq.mpr rfl]; rfl
  · rw [Int.compare_eq_gt.mpr h, decide_eq_false (by omega)]; rfl
theorem cmp_ne_dec {a b : Int} : (some (compare a b) != some Ordering.eq) = decide (a ≠ b) := by
  show (!(some (compare a b) == some Ordering.eq)) = _
  rw [cmp_eq_dec]
  by_cases h : a = b
  · rw [decide_eq_true h, decide_eq_false (fun e => e h)]; rfl
  · rw [decide_eq_false h, decide_eq_true h]; rfl

section
variable {prog : Program} {w : World} {A : Around} {E : Value → Shared → Prop} {s : Shared} {Q : Value → Shared → Prop} {t u : Tok} {x y : UInt64} {a b i j : Int}

theorem r_sub_ff (hx : x = H a) (hy : y = H b) (ha : a.natAbs < 2 ^ 51) (hb : b.natAbs < 2 ^ 51) (h : Q (.float (H (a - b)) s.toks) { s with toks := s.toks + 1 }) :
    wpAny (model prog w) A (binaryOp .Sub (.float x t) (.float y u)) Q E s := by
  subst hx; subst hy
  rw [← sub_H (by omega) (by omega) (by omega)] at h
  exact sub_float h
theorem r_add_ff (hx : x = H a) (hy : y = H b) (ha : a.natAbs < 2 ^ 51) (hb : b.natAbs < 2 ^ 51) (h : Q (.float (H (a + b)) s.toks) { s with toks := s.toks + 1 }) :
    wpAny (model prog w) A (binaryOp .Add (.float x t) (.float y u)) Q E s := by
  subst hx; subst hy
  rw [← add_H (by omega) (by omega) (by omega)] at h
  exact add_float h
theorem r_sub_fi (hx : x = H a) (ha : a.natAbs < 2 ^ 51) (hi : i.natAbs < 2 ^ 50) (h : Q (.float (H (a - 2 * i)) s.toks) { s with toks := s.toks + 1 }) :
    wpAny (model prog w) A (binaryOp .Sub (.float x t) (.int i u)) Q E s := by
  subst hx
  rw [← sub_H (by omega) (by omega) (by omega), ← ofInt_H (by omega)] at h
  exact AutoFloatOps.sub_fi_1 (inf_no hi) h
theorem r_add_fi (hx : x = H a) (ha : a.natAbs < 2 ^ 51) (hi : i.natAbs < 2 ^ 50) (h : Q (.float (H (a + 2 * i)) s.toks) { s with toks := s.toks + 1 }) :
    wpAny (model prog w) A (binaryOp .Add (.float x t) (.int i u)) Q E s := by
  subst hx
  rw [← add_H (by omega) (by omega) (by omega), ← ofInt_H (by omega)] at h
  exact AutoFloatOps.add_fi_1 (inf_no hi) h
theorem r_add_if (hx : x = H a) (ha : a.natAbs < 2 ^ 51) (hi : i.natAbs < 2 ^ 50) (h : Q (.float (H (2 * i + a)) s.toks) { s with toks := s.toks + 1 }) :
    wpAny (model prog w) A (binaryOp .Add (.int i u) (.float x t)) Q E s := by
  subst hx
  rw [← add_H (by omega) (by omega) (by omega), ← ofInt_H (by omega)] at h
  exact AutoFloatOps.add_if_1 (inf_no hi) h
theorem r_isub_fi (hx : x = H a) (ha : a.natAbs < 2 ^ 51) (hi : i.natAbs < 2 ^ 50) (h : Q (.float (H (a - 2 * i)) s.toks) { s with toks := s.toks + 1 }) :
    wpAny (model prog w) A (inplaceOp .Sub (.float x t) (.int i u)) Q E s := by
  subst hx
  rw [← sub_H (by omega) (by omega) (by omega), ← ofInt_H (by omega)] at h
  exact PySem.Flt.isub_fi_1 (inf_no hi) h
theorem r_iadd_fi (hx : x = H a) (ha : a.natAbs < 2 ^ 51) (hi : i.natAbs < 2 ^ 50) (h : Q (.float (H (a + 2 * i)) s.toks) { s with toks := s.toks + 1 }) :
    wpAny (model prog w) A (inplaceOp .Add (.float x t) (.int i u)) Q E s := by
  subst hx
  rw [← add_H (by omega) (by omega) (by omega), ← ofInt_H (by omega)] at h
  exact PySem.Flt.iadd_fi_1 (inf_no hi) h
theorem r_mul_fi (hx : x = H a) (hi0 : 0 < i) (ha : a.natAbs < 2 ^ 51) (hi : i.natAbs < 2 ^ 50) (hp : (a * i).natAbs < 2 ^ 53) (h : Q (.float (H (a * i)) s.toks) { s with toks := s.toks + 1 }) :
    wpAny (model prog w) A (binaryOp .Mult (.float x t) (.int i u)) Q E s := by
  subst hx
  rw [← mul_H hi0 (by omega) (by omega) hp] at h
  exact AutoFloatOps.mul_fi_1 (inf_no hi) h
theorem r_mod_fi (hx : x = H a) (ha0 : 0 ≤ a) (hi0 : 0 < i) (ha : a.natAbs < 2 ^ 51) (hi : i.natAbs < 2 ^ 50) (h : Q (.float (H (a % (2 * i))) s.toks) { s with toks := s.toks + 1 }) :
    wpAny (model prog w) A (binaryOp .Mod (.float x t) (.int i u)) Q E s := by
  subst hx
  rw [← mod_H ha0 hi0 (by omega) (by omega)] at h
  exact AutoFloatOps.mod_fi_2 (inf_no hi) (zero_no (by omega)) h
theorem r_div_fi (hx : x = H a) (ha0 : 0 ≤ a) (hi0 : 0 < i) (ha : a.natAbs < 2 ^ 51) (hi : i ≤ 2 ^ 18) (hq : a / (2 * i) < 2 ^ 31) (h : ∀ z t', NrI z (a / (2 * i)) → Q (.float z t') { s with toks := s.toks + 1 }) :
    wpAny (model prog w) A (binaryOp .Div (.float x t) (.int i u)) Q E s := by
  subst hx
  have h' := h (div (H a) (ofInt i)) s.toks ⟨Int.ediv_nonneg ha0 (by omega), hq, nr_div ha0 hi0 (by omega) hi (by omega)⟩
  exact AutoFloatOps.truediv_fi_2 (inf_no (by omega)) (zero_no (by omega)) h'
theorem r_div_ii (ha0 : 0 ≤ a) (hi0 : 0 < i) (ha : a < 2 ^ 50) (hi : i ≤ 2 ^ 18) (hq : a / i < 2 ^ 31) (h : ∀ z t', NrI z (a / i) → Q (.float z t') { s with toks := s.toks + 1 }) :
    wpAny (model prog w) A (binaryOp .Div (.int a t) (.int i u)) Q E s := by
  have e : (a / i).toNat = a.natAbs / i.natAbs := by
    obtain ⟨x, rfl⟩ := Int.eq_ofNat_of_zero_le ha0
    obtain ⟨y, rfl⟩ := Int.eq_ofNat_of_zero_le (show 0 ≤ i by omega)
    rw [← Int.natCast_ediv, Int.toNat_natCast, Int.natAbs_natCast, Int.natAbs_natCast]
  have hn : Nr (ofFrac false a.natAbs i.natAbs) (a / i).toNat := by
    rw [e]
    exact nr_ofFrac (by omega) (by omega) (by rw [← e]; omega)
  have h' := h (ofFrac false a.natAbs i.natAbs) s.toks ⟨Int.ediv_nonneg ha0 (by omega), hq, hn⟩
  have e2 : (decide (a < 0) != decide (i < 0)) = false := by rw [decide_eq_false (by omega), decide_eq_false (by omega)]; rfl
  rw [← e2] at h'
  have hne : i ≠ 0 := by omega
  exact AutoIntOps.truediv_2 (by simpa using hne) (PySem.Flt.quot_fits (by omega) (nat1023 (by omega))) h'
theorem r_nadd_fi {f : Int} (hx : NrI x f) (hi : i.natAbs < 2 ^ 20) (h0 : 0 ≤ f + i) (hf : f + i < 2 ^ 31) (h : ∀ z t', NrI z (f + i) → Q (.float z t') { s with toks := s.toks + 1 }) :
    wpAny (model prog w) A (binaryOp .Add (.float x t) (.int i u)) Q E s := by
  have hx' := nr_add (i := i) hx.2.2 hi (by have := hx.2.1; omega) (by have := hx.1; omega)
  rw [Int.toNat_of_nonneg hx.1] at hx'
  exact AutoFloatOps.add_fi_1 (inf_no (by omega)) (h _ _ ⟨h0, hf, hx'⟩)
theorem r_floor_n {f : Int} (hx : NrI x f) (hA : A.handled = none) (h : Q (.int f s.toks) { s with toks := s.toks + 1 }) :
    wpAny (model prog w) A (call (.builtin "math.floor") [.float x t]) Q E s := by
  have hf := hx.2.2.fin
  refine PySem.Flt.call_floor_float hA (fun e => ?_) (fun e => ?_) fun _ => ?_
  · rw [PySem.Flt.not_nan_of_finite hf] at e; cases e
  · rw [PySem.Flt.not_inf_of_finite hf] at e; cases e
  · rw [hx.2.2.floor, Int.toNat_of_nonneg hx.1]; exact h
theorem r_floor_h (hx : x = H a) (ha0 : 0 ≤ a) (ha : a.natAbs < 2 ^ 51) (hA : A.handled = none) (h : Q (.int (a / 2) s.toks) { s with toks := s.toks + 1 }) :
    wpAny (model prog w) A (call (.builtin "math.floor") [.float x t]) Q E s := by
  subst hx
  have hf := H_fin (n := a) (by omega)
  refine PySem.Flt.call_floor_float hA (fun e => ?_) (fun e => ?_) fun _ => ?_
  · rw [PySem.Flt.not_nan_of_finite hf] at e; cases e
  · rw [PySem.Flt.not_inf_of_finite hf] at e; cases e
  · rw [floor_H ha0 (by omega)]; exact h
theorem r_int_h (hx : x = H a) (ha0 : 0 ≤ a) (ha : a.natAbs < 2 ^ 51) (hA : A.handled = none) (h : Q (.int (a / 2) s.toks) { s with toks := s.toks + 1 }) :
    wpAny (model prog w) A (call (.type "int") [.float x t]) Q E s := by
  subst hx
  have hf := H_fin (n := a) (by omega)
  refine PySem.Flt.call_int_float3 hA (fun e => ?_) (fun e => ?_) fun _ => ?_
  · rw [PySem.Flt.not_nan_of_finite hf] at e; cases e
  · rw [PySem.Flt.not_inf_of_finite hf] at e; cases e
  · rw [trunc_H ha0 (by omega)]; exact h
theorem r_lt_fi (hx : x = H a) (ha : a.natAbs < 2 ^ 51) (h : Q (.bool (decide (a < 2 * i))) s) : wpAny (model prog w) A (compareOp .Lt (.float x t) (.int i u)) Q E s := by
  subst hx
  refine lt_fi ?_
  rw [cmpInt_H (by omega), cmp_lt_dec]; exact h
theorem r_ne_fi (hx : x = H a) (ha : a.natAbs < 2 ^ 51) (h : Q (.bool (decide (a ≠ 2 * i))) s) : wpAny (model prog w) A (compareOp .NotEq (.float x t) (.int i u)) Q E s := by
  subst hx
  refine ne_fi ?_
  rw [cmpInt_H (by omega), cmp_ne_dec]; exact h
theorem r_eq_fi (hx : x = H a) (ha : a.natAbs < 2 ^ 51) (h : Q (.bool (decide (a = 2 * i))) s) : wpAny (model prog w) A (compareOp .Eq (.float x t) (.int i u)) Q E s := by
  subst hx
  refine eq_fi ?_
  rw [cmpInt_H (by omega), cmp_eq_dec]; exact h
theorem r_ne_ff (hx : x = H a) (hy : y = H b) (ha : a.natAbs < 2 ^ 51) (hb : b.natAbs < 2 ^ 51) (h : Q (.bool (decide (a ≠ b))) s) : wpAny (model prog w) A (compareOp .NotEq (.float x t) (.float y u)) Q E s := by
  subst hx; subst hy
  refine AutoFloatOps.ne_0 ?_
  rw [cmp_H (by omega) (by omega), cmp_ne_dec]; exact h
end
end Mine
namespace Mine
/-- an equation that the walk's arithmetic does not see -/
def Eqn (a b : Int) : Prop := a = b
theorem Eqn.rfl {a : Int} : Eqn a a := by unfold Eqn; exact Eq.refl a
theorem Eqn.mk {a b : Int} (h : a = b) : Eqn a b := h
theorem Eqn.out {a b : Int} (h : Eqn a b) : a = b := h
theorem na {a : Int} (h : -1000000000000 < a ∧ a < 1000000000000) : a.natAbs < 2 ^ 50 := by omega
section
variable {prog : Program} {w : World} {A : Around} {E : Value → Shared → Prop} {s : Shared} {Q : Value → Shared → Prop} {t u : Tok} {x y : UInt64} {a b i j z : Int}
theorem up51 {n : Nat} (h : n < 2 ^ 50) : n < 2 ^ 51 := by omega
theorem e_sub_ff (hx : x = H a) (hy : y = H b) (he : Eqn (a - b) z) (hb : (-1000000000000 < a ∧ a < 1000000000000) ∧ (-1000000000000 < b ∧ b < 1000000000000)) (h : Q (.float (H z) s.toks) { s with toks := s.toks + 1 }) :
    wpAny (model prog w) A (binaryOp .Sub (.float x t) (.float y u)) Q E s := r_sub_ff hx hy (up51 (na hb.1)) (up51 (na hb.2)) (by rw [he.out]; exact h)
theorem e_sub_fi (hx : x = H a) (he : Eqn (a - 2 * i) z) (hb : (-1000000000000 < a ∧ a < 1000000000000) ∧ (-1000000000000 < i ∧ i < 1000000000000)) (h : Q (.float (H z) s.toks) { s with toks := s.toks + 1 }) :
    wpAny (model prog w) A (binaryOp .Sub (.float x t) (.int i u)) Q E s := r_sub_fi hx (up51 (na hb.1)) (na hb.2) (by rw [he.out]; exact h)
theorem e_add_fi (hx : x = H a) (he : Eqn (a + 2 * i) z) (hb : (-1000000000000 < a ∧ a < 1000000000000) ∧ (-1000000000000 < i ∧ i < 1000000000000)) (h : Q (.float (H z) s.toks) { s with toks := s.toks + 1 }) :
    wpAny (model prog w) A (binaryOp .Add (.float x t) (.int i u)) Q E s := r_add_fi hx (up51 (na hb.1)) (na hb.2) (by rw [he.out]; exact h)
theorem e_add_if (hx : x = H a) (he : Eqn (2 * i + a) z) (hb : (-1000000000000 < a ∧ a < 1000000000000) ∧ (-1000000000000 < i ∧ i < 1000000000000)) (h : Q (.float (H z) s.toks) { s with toks := s.toks + 1 }) :
    wpAny (model prog w) A (binaryOp .Add (.int i u) (.float x t)) Q E s := r_add_if hx (up51 (na hb.1)) (na hb.2) (by rw [he.out]; exact h)
theorem e_isub_fi (hx : x = H a) (he : Eqn (a - 2 * i) z) (hb : (-1000000000000 < a ∧ a < 1000000000000) ∧ (-1000000000000 < i ∧ i < 1000000000000)) (h : Q (.float (H z) s.toks) { s with toks := s.toks + 1 }) :
    wpAny (model prog w) A (inplaceOp .Sub (.float x t) (.int i u)) Q E s := r_isub_fi hx (up51 (na hb.1)) (na hb.2) (by rw [he.out]; exact h)
theorem e_iadd_fi (hx : x = H a) (he : Eqn (a + 2 * i) z) (hb : (-1000000000000 < a ∧ a < 1000000000000) ∧ (-1000000000000 < i ∧ i < 1000000000000)) (h : Q (.float (H z) s.toks) { s with toks := s.toks + 1 }) :
    wpAny (model prog w) A (inplaceOp .Add (.float x t) (.int i u)) Q E s := r_iadd_fi hx (up51 (na hb.1)) (na hb.2) (by rw [he.out]; exact h)
theorem e_mul_fi (hx : x = H a) (he : Eqn (a * i) z) (hb : ((-1000000000000 < a ∧ a < 1000000000000) ∧ (0 < i ∧ i < 1000000000000)) ∧ (-1000000000000 < z ∧ z < 1000000000000)) (h : Q (.float (H z) s.toks) { s with toks := s.toks + 1 }) :
    wpAny (model prog w) A (binaryOp .Mult (.float x t) (.int i u)) Q E s := by
  have hz := na hb.2
  have hi := na (a := i) ⟨by omega, hb.1.2.2⟩
  exact r_mul_fi hx hb.1.2.1 (up51 (na hb.1.1)) hi (by rw [he.out]; omega) (by rw [he.out]; exact h)
theorem e_mod_fi (hx : x = H a) (he : Eqn (a % (2 * i)) z) (hb : (0 ≤ a ∧ a < 1000000000000) ∧ (0 < i ∧ i < 1000000000000)) (h : Q (.float (H z) s.toks) { s with toks := s.toks + 1 }) :
    wpAny (model prog w) A (binaryOp .Mod (.float x t) (.int i u)) Q E s :=
  r_mod_fi hx hb.1.1 hb.2.1 (up51 (na ⟨by omega, hb.1.2⟩)) (na ⟨by omega, hb.2.2⟩) (by rw [he.out]; exact h)
theorem e_div_fi (hx : x = H a) (he : Eqn (a / (2 * i)) z) (hb : (0 ≤ a ∧ a < 1000000000000) ∧ (0 < i ∧ i ≤ 200000) ∧ z < 2000000000) (h : ∀ v t', NrI v z → Q (.float v t') { s with toks := s.toks + 1 }) :
    wpAny (model prog w) A (binaryOp .Div (.float x t) (.int i u)) Q E s :=
  r_div_fi hx hb.1.1 hb.2.1.1 (up51 (na ⟨by omega, hb.1.2⟩)) (by omega) (by rw [he.out]; omega) (by rw [he.out]; exact h)
theorem e_div_ii (he : Eqn (a / i) z) (hb : (0 ≤ a ∧ a < 1000000000000) ∧ (0 < i ∧ i ≤ 200000) ∧ z < 2000000000) (h : ∀ v t', NrI v z → Q (.float v t') { s with toks := s.toks + 1 }) :
    wpAny (model prog w) A (binaryOp .Div (.int a t) (.int i u)) Q E s :=
  r_div_ii hb.1.1 hb.2.1.1 (by omega) (by omega) (by rw [he.out]; omega) (by rw [he.out]; exact h)
theorem e_nadd_fi {f : Int} (hx : NrI x f) (hb : (-1000000 < i ∧ i < 1000000) ∧ 0 ≤ f + i ∧ f + i < 2000000000) (h : ∀ v t', NrI v (f + i) → Q (.float v t') { s with toks := s.toks + 1 }) :
    wpAny (model prog w) A (binaryOp .Add (.float x t) (.int i u)) Q E s := r_nadd_fi hx (by omega) hb.2.1 (by omega) h
theorem e_floor_h (hx : x = H a) (he : Eqn (a / 2) z) (hb : 0 ≤ a ∧ a < 1000000000000) (hA : A.handled = none) (h : Q (.int z s.toks) { s with toks := s.toks + 1 }) :
    wpAny (model prog w) A (call (.builtin "math.floor") [.float x t]) Q E s := r_floor_h hx hb.1 (up51 (na ⟨by omega, hb.2⟩)) hA (by rw [he.out]; exact h)
theorem e_int_h (hx : x = H a) (he : Eqn (a / 2) z) (hb : 0 ≤ a ∧ a < 1000000000000) (hA : A.handled = none) (h : Q (.int z s.toks) { s with toks := s.toks + 1 }) :
    wpAny (model prog w) A (call (.type "int") [.float x t]) Q E s := r_int_h hx hb.1 (up51 (na ⟨by omega, hb.2⟩)) hA (by rw [he.out]; exact h)
theorem e_add_ibT {n : Int} (h : Q (.int (n + 1) s.toks) { s with toks := s.toks + 1 }) : wpAny (model prog w) A (binaryOp .Add (.int n t) (.bool true)) Q E s := PySem.add_int_bool h
theorem e_add_ibF {n : Int} (h : Q (.int (n + 0) s.toks) { s with toks := s.toks + 1 }) : wpAny (model prog w) A (binaryOp .Add (.int n t) (.bool false)) Q E s := PySem.add_int_bool h
theorem e_sub_ibT {n : Int} (h : Q (.int (n - 1) s.toks) { s with toks := s.toks + 1 }) : wpAny (model prog w) A (binaryOp .Sub (.int n t) (.bool true)) Q E s := IntBool.sub_int_bool h
theorem e_sub_ibF {n : Int} (h : Q (.int (n - 0) s.toks) { s with toks := s.toks + 1 }) : wpAny (model prog w) A (binaryOp .Sub (.int n t) (.bool false)) Q E s := IntBool.sub_int_bool h
theorem e_lt_fi (hx : x = H a) (hb : -1000000000000 < a ∧ a < 1000000000000) (h : Q (.bool (decide (a < 2 * i))) s) : wpAny (model prog w) A (compareOp .Lt (.float x t) (.int i u)) Q E s := r_lt_fi hx (up51 (na hb)) h
theorem e_ne_fi (hx : x = H a) (hb : -1000000000000 < a ∧ a < 1000000000000) (h : Q (.bool (decide (a ≠ 2 * i))) s) : wpAny (model prog w) A (compareOp .NotEq (.float x t) (.int i u)) Q E s := r_ne_fi hx (up51 (na hb)) h
theorem e_ne_ff (hx : x = H a) (hy : y = H b) (hb : (-1000000000000 < a ∧ a < 1000000000000) ∧ (-1000000000000 < b ∧ b < 1000000000000)) (h : Q (.bool (decide (a ≠ b))) s) : wpAny (model prog w) A (compareOp .NotEq (.float x t) (.float y u)) Q E s :=
  r_ne_ff hx hy (up51 (na hb.1)) (up51 (na hb.2)) h
end
end Mine
namespace Mine
set_option maxRecDepth 100000
set_option maxHeartbeats 8000000
open_top hd for PySem.Challenge.rw_ba5007_01
end Mine
namespace Mine
abbrev MTop (mean : ExcName → Option Value) (mg mb : Str → Option Value) (h : Heap) : Prop :=
  Top Mine.hd.view_39 (looseW Mine.hd.view_39 [Str.ofString "to_jd_gregorian", Str.ofString "from_jd_gregorian", Str.ofString "to_jd_indian_civil", Str.ofString "from_jd_indian_civil"]) mean mg mb h
/-- what a call of the def at f does, from any frame: it ends as R says -/
abbrev Cl (w : World) (f : Addr) (k : Nat) (vs : List Value)
    (R : List (Addr × Obj) → Heap → Addr → (Str → Option Value) → Shared → (Value → Shared → Prop) → Prop) : Prop :=
  ∀ (mean : ExcName → Option Value) (mg mb : Str → Option Value) (dp un : Nat) (gd : Option (List Code)) (cn : Str) (cs : Scope) (a : Addr) (ccd : Value) (cl : List (Str × Addr)) (outer : List Env) (A₀ : Around) (base h₀ : Heap) (L : Addr) (m : Str → Option Value) (news : List (Addr × Obj)) (s : Shared) (Q E : Value → Shared → Prop),
    Below A₀ base outer h₀ → Fr h₀ L s.heap m → (Mine.hd.heap_39 w.params).In h₀ → News h₀ L s.heap news → MTop mean mg mb h₀ → cs.kind = .function →
    dp + k < recursionLimit → un + 8 * k < cLine → R news h₀ L m s Q →
    wpAny (model PySem.Challenge.rw_ba5007_01.row.prog w) (ktrTop dp un gd cn cs L a ccd cl outer) (call (.ref f) vs) Q E s
/-- it hands back r, nothing new stands in the caller's ledger -/
abbrev Gives1 (r : Tok → Value) (news : List (Addr × Obj)) (h₀ : Heap) (L : Addr) (m : Str → Option Value) (s : Shared) (Q : Value → Shared → Prop) : Prop :=
  ∀ (t : Tok) (h' : Heap) (tk' : Nat), Fr h₀ L h' m → News h₀ L h' news → Q (r t) { s with heap := h', toks := tk' }
/-- it hands back a new tuple of three ints -/
abbrev Gives3 (x y z : Int) (news : List (Addr × Obj)) (h₀ : Heap) (L : Addr) (m : Str → Option Value) (s : Shared) (Q : Value → Shared → Prop) : Prop :=
  ∀ (D : Addr) (t1 t2 t3 : Tok) (n : Nat) (h' : Heap) (tk' : Nat), Fr h₀ L h' m → News h₀ L h' ((D, ({ cls := .type "tuple", data := .seq #[.int x t1, .int y t2, .int z t3] n } : Obj)) :: news) → Q (.ref D) { s with heap := h', toks := tk' }
theorem Cl.use {w : World} {f : Addr} {k : Nat} {vs : List Value} {R : List (Addr × Obj) → Heap → Addr → (Str → Option Value) → Shared → (Value → Shared → Prop) → Prop} (C : Cl w f k vs R)
    {mean : ExcName → Option Value} {mg mb : Str → Option Value} {A : Around} {dp un : Nat} {gd : Option (List Code)} {cn : Str} {cs : Scope} {a : Addr} {ccd : Value} {cl : List (Str × Addr)} {outer : List Env} {A₀ : Around} {base h₀ : Heap} {L : Addr} {m : Str → Option Value} {news : List (Addr × Obj)} {s : Shared} {Q E : Value → Shared → Prop}
    (hA : A = ktrTop dp un gd cn cs L a ccd cl outer) (B : Below A₀ base outer h₀) (F : Fr h₀ L s.heap m) (X : (Mine.hd.heap_39 w.params).In h₀) (N : News h₀ L s.heap news) (T : MTop mean mg mb h₀) (hk : cs.kind = .function)
    (hd : dp + k < recursionLimit) (hu : un + 8 * k < cLine) (r : R news h₀ L m s Q) :
    wpAny (model PySem.Challenge.rw_ba5007_01.row.prog w) A (call (.ref f) vs) Q E s := by
  subst hA
  exact C _ _ _ _ _ _ _ _ _ _ _ _ _ _ _ _ _ _ _ _ _ B F X N T hk hd hu r
theorem r_in_top {prog : Program} {w : World} {A : Around} {E : Value → Shared → Prop} {s : Shared} {Q : Value → Shared → Prop} {K : Frag} {h₀ : Heap} {L a : Addr} {m : Str → Option Value} {l : List Value} {dd : Option Addr} {n : Nat} {sl : Array (Option Value)} {ns : List Int} {x : Int} {u : Tok}
    (F : Fr h₀ L s.heap m) (X₀ : K.In h₀) (hl : K.lookup a = some ⟨.type "tuple", dd, .seq l.toArray n, sl⟩) (hi : IntsAre l ns) (h : Q (.bool (ns.any (· == x))) s) :
    wpAny (model prog w) A (compareOp .In (.int x u) (.ref a)) Q E s := in_tuple_ints (tupK (X₀.keeps F.keep) hl) hi h
theorem ret_f {h₀ h' : Heap} {L : Addr} {m : Str → Option Value} {news : List (Addr × Obj)} {s : Shared} {Q : Value → Shared → Prop} {t : Tok} {tk' : Nat} {x y : Int}
    (hret : ∀ (t : Tok) (h' : Heap) (tk' : Nat), Fr h₀ L h' m → News h₀ L h' news → Q (.float (H x) t) { s with heap := h', toks := tk' }) (e : y = x) (F : Fr h₀ L h' m) (N : News h₀ L h' news) : Q (.float (H y) t) { s with heap := h', toks := tk' } := by
  subst e
  exact hret t h' tk' F N
theorem ret_3 {h₀ h' : Heap} {L D : Addr} {m : Str → Option Value} {news news' : List (Addr × Obj)} {s : Shared} {Q : Value → Shared → Prop} {t1 t2 t3 : Tok} {n : Nat} {tk' : Nat} {x y z x' y' z' : Int}
    (hret : ∀ (D : Addr) (t1 t2 t3 : Tok) (n : Nat) (h' : Heap) (tk' : Nat), Fr h₀ L h' m → News h₀ L h' ((D, ({ cls := .type "tuple", data := .seq #[.int x t1, .int y t2, .int z t3] n } : Obj)) :: news) → Q (.ref D) { s with heap := h', toks := tk' })
    (e1 : x' = x) (e2 : y' = y) (e3 : z' = z) (F : Fr h₀ L h' m) (N : News h₀ L h' news') (hm : (D, ({ cls := .type "tuple", data := .seq #[.int x' t1, .int y' t2, .int z' t3] n } : Obj)) ∈ news') (hs : ∀ p ∈ news, p ∈ news') : Q (.ref D) { s with heap := h', toks := tk' } := by
  subst e1; subst e2; subst e3
  refine hret D t1 t2 t3 n h' tk' F fun p hp => ?_
  rcases List.mem_cons.mp hp with rfl | hp
  · exact N _ hm
  · exact N p (hs p hp)

def leapB (y : Int) : Bool := (y.fmod 4 == 0) && ((y.fmod 100 != 0) || (y.fmod 400 == 0))
theorem leap_iff (y : Int) : leapB y = true ↔ (y % 4 = 0 ∧ (y % 100 ≠ 0 ∨ y % 400 = 0)) := by
  unfold leapB
  rw [Int.fmod_eq_emod_of_nonneg _ (by decide), Int.fmod_eq_emod_of_nonneg _ (by decide), Int.fmod_eq_emod_of_nonneg _ (by decide)]
  simp
theorem fm (x : Int) : x.fmod 4 = x % 4 ∧ x.fmod 100 = x % 100 ∧ x.fmod 400 = x % 400 := by
  rw [Int.fmod_eq_emod_of_nonneg _ (by decide), Int.fmod_eq_emod_of_nonneg _ (by decide), Int.fmod_eq_emod_of_nonneg _ (by decide)]
  exact ⟨rfl, rfl, rfl⟩
def adj (y m : Int) : Int := if m ≤ 2 then 0 else if leapB y then -1 else -2
/-- halves of days up to a Gregorian date, as the code's to_jd reckons it -/
def G (y m d : Int) : Int := 3442849 + 2 * (365 * (y - 1)) + 2 * ((y - 1) / 4) + 2 * (-((y - 1) / 100)) + 2 * ((y - 1) / 400) + 2 * ((367 * m - 362) / 12 + adj y m + d)
theorem g1 {y m d : Int} (h : m ≤ 2) : G y m d = 3442849 + 2 * (365 * (y - 1)) + 2 * ((y - 1) / 4) + 2 * (-((y - 1) / 100)) + 2 * ((y - 1) / 400) + 2 * ((367 * m - 362) / 12 + 0 + d) := by
  unfold G adj; rw [if_pos h]
theorem g2 {y m d : Int} (h : ¬ m ≤ 2) (hl : leapB y = true) : G y m d = 3442849 + 2 * (365 * (y - 1)) + 2 * ((y - 1) / 4) + 2 * (-((y - 1) / 100)) + 2 * ((y - 1) / 400) + 2 * ((367 * m - 362) / 12 + -1 + d) := by
  unfold G adj; rw [if_neg h, if_pos hl]
theorem g3 {y m d : Int} (h : ¬ m ≤ 2) (hl : ¬ leapB y = true) : G y m d = 3442849 + 2 * (365 * (y - 1)) + 2 * ((y - 1) / 4) + 2 * (-((y - 1) / 100)) + 2 * ((y - 1) / 400) + 2 * ((367 * m - 362) / 12 + -2 + d) := by
  unfold G adj; rw [if_neg h, if_neg hl]
end Mine
namespace Mine
end Mine
open Mine
local macro_rules | `(tactic| walk_at "call ref") => `(tactic| k_extra "cr")
local macro_rules | `(tactic| walk_at "compareOp In int ref") => `(tactic| (k_here; k_dflt (refine' r_in_top ?F ?X ?l ?i ?_; (case F => k_asm); (case X => k_asm); (case l => k_is); (case i => repeat constructor); (try simp only [List.any_cons, List.any_nil, Bool.or_false]))))
local macro_rules | `(tactic| walk_at "binaryOp Sub float float") => `(tactic| (k_here; (with_reducible refine' e_sub_ff ?hx ?hy ?he ?hb ?_); (case hx => first | with_reducible exact rfl | exact epoch_H | exact half_H); (case hy => first | with_reducible exact rfl | exact epoch_H | exact half_H); (case he => first | with_reducible assumption | k_extra "he" | exact Eqn.rfl); (case hb => omega); (try dsimp only)))
local macro_rules | `(tactic| walk_at "binaryOp Sub float int") => `(tactic| (k_here; (with_reducible refine' e_sub_fi ?hx ?he ?hb ?_); (case hx => first | with_reducible exact rfl | exact epoch_H | exact half_H); (case he => first | with_reducible assumption | exact Eqn.rfl); (case hb => omega); (try dsimp only)))
local macro_rules | `(tactic| walk_at "binaryOp Add float int") => `(tactic| (k_here; first
  | ((with_reducible refine' e_nadd_fi ?hx ?hb ?_); (case hx => with_reducible assumption); (case hb => omega); (try dsimp only); intro z9 t9 hz9)
  | ((with_reducible refine' e_add_fi ?hx ?he ?hb ?_); (case hx => first | with_reducible exact rfl | exact epoch_H | exact half_H); (case he => first | with_reducible assumption | exact Eqn.rfl); (case hb => omega); (try dsimp only))))
local macro_rules | `(tactic| walk_at "binaryOp Add int float") => `(tactic| (k_here; (with_reducible refine' e_add_if ?hx ?he ?hb ?_); (case hx => first | with_reducible exact rfl | exact half_H); (case he => first | with_reducible assumption | exact Eqn.rfl); (case hb => omega); (try dsimp only)))
local macro_rules | `(tactic| walk_at "inplaceOp Sub float int") => `(tactic| (k_here; (with_reducible refine' e_isub_fi ?hx ?he ?hb ?_); (case hx => with_reducible exact rfl); (case he => first | with_reducible assumption | exact Eqn.rfl); (case hb => omega); (try dsimp only)))
local macro_rules | `(tactic| walk_at "inplaceOp Add float int") => `(tactic| (k_here; (with_reducible refine' e_iadd_fi ?hx ?he ?hb ?_); (case hx => with_reducible exact rfl); (case he => first | with_reducible assumption | exact Eqn.rfl); (case hb => omega); (try dsimp only)))
local macro_rules | `(tactic| walk_at "binaryOp Mult float int") => `(tactic| (k_here; (with_reducible refine' e_mul_fi ?hx ?he ?hb ?_); (case hx => with_reducible exact rfl); (case he => first | with_reducible assumption | exact Eqn.rfl); (case hb => omega); (try dsimp only)))
local macro_rules | `(tactic| walk_at "binaryOp Mod float int") => `(tactic| (k_here; (with_reducible refine' e_mod_fi ?hx ?he ?hb ?_); (case hx => with_reducible exact rfl); (case he => first | with_reducible assumption | exact Eqn.rfl); (case hb => omega); (try dsimp only)))
local macro_rules | `(tactic| walk_at "binaryOp Div float int") => `(tactic| (k_here; (with_reducible refine' e_div_fi ?hx ?he ?hb ?_); (case hx => with_reducible exact rfl); (case he => first | with_reducible assumption | exact Eqn.rfl); (case hb => omega); (try dsimp only); intro z9 t9 hz9))
local macro_rules | `(tactic| walk_at "binaryOp Div int int") => `(tactic| (k_here; (with_reducible refine' e_div_ii ?he ?hb ?_); (case he => first | with_reducible assumption | exact Eqn.rfl); (case hb => omega); (try dsimp only); intro z9 t9 hz9))
local macro_rules | `(tactic| walk_at "call builtin:math.floor") => `(tactic| (k_here; first
  | ((with_reducible refine' r_floor_n ?hx ?hA ?_); (case hx => with_reducible assumption); (case hA => k_dflt (exact rfl)); (try dsimp only))
  | ((with_reducible refine' e_floor_h ?hx ?he ?hb ?hA ?_); (case hx => with_reducible exact rfl); (case he => first | with_reducible assumption | exact Eqn.rfl); (case hb => omega); (case hA => k_dflt (exact rfl)); (try dsimp only))))
local macro_rules | `(tactic| walk_at "call type:int") => `(tactic| (k_here; (with_reducible refine' e_int_h ?hx ?he ?hb ?hA ?_); (case hx => with_reducible exact rfl); (case he => first | with_reducible assumption | exact Eqn.rfl); (case hb => omega); (case hA => k_dflt (exact rfl)); (try dsimp only)))
local macro_rules | `(tactic| walk_at "binaryOp Add int bool") => `(tactic| (k_here; (first | with_reducible refine' e_add_ibT ?_ | with_reducible refine' e_add_ibF ?_); (try dsimp only)))
local macro_rules | `(tactic| walk_at "binaryOp Sub int bool") => `(tactic| (k_here; (first | with_reducible refine' e_sub_ibT ?_ | with_reducible refine' e_sub_ibF ?_); (try dsimp only)))
local macro_rules | `(tactic| walk_at "compareOp Lt float int") => `(tactic| (k_here; (with_reducible refine' e_lt_fi ?hx ?hb ?_); (case hx => with_reducible exact rfl); (case hb => omega); (try dsimp only)))
local macro_rules | `(tactic| walk_at "compareOp NotEq float int") => `(tactic| (k_here; (with_reducible refine' e_ne_fi ?hx ?hb ?_); (case hx => with_reducible exact rfl); (case hb => omega); (try dsimp only)))
local macro_rules | `(tactic| walk_at "compareOp NotEq float float") => `(tactic| (k_here; (with_reducible refine' e_ne_ff ?hx ?hy ?hb ?_); (case hx => with_reducible exact rfl); (case hy => with_reducible exact rfl); (case hb => omega); (try dsimp only)))
local macro_rules | `(tactic| kcj_all) => `(tactic| (intro p9 h9; first | exact h9 | exact List.mem_cons_of_mem _ h9 | exact List.mem_cons_of_mem _ (List.mem_cons_of_mem _ h9) | exact List.mem_cons_of_mem _ (List.mem_cons_of_mem _ (List.mem_cons_of_mem _ h9))))
local macro_rules | `(tactic| walk_at "eval Call") => `(tactic| (k_here; (with_reducible show wpAny _ _ (eval (PySem.Expr.Call (PySem.Expr.Name _ _) _ [] _) _) _ _ _); k_dflt (refine Call_ ?_)))
namespace Mine

set_option maxRecDepth 100000 in
set_option maxHeartbeats 8000000 in
theorem c_isleap (w : World) (y : Int) (ty : Tok) : Cl w 50 1 [.int y ty] (Gives1 fun _ => .bool (leapB y)) := by
  dsimp only [Cl, MTop, Gives1]
  k_fill
  intro mean mg mb dp un gd cn cs a ccd cl outer A₀ base h₀ L m news s Q E B F X N T hk hd hu hret
  refine wpAny_call ?_
  k_dflt cell_enter
  k_steps
  all_goals (refine' cb_retB (Q := Q) (s := s) hret ?e1 ?e2 ?e3; (case e2 => k_asm); (case e3 => k_asm); (case e1 => (unfold leapB; simp_all)))
theorem c_isleapE (w : World) (y' y : Int) (ty : Tok) (b : Bool) (he : y' = y) (hb : leapB y = b) : Cl w 50 1 [.int y' ty] (Gives1 fun _ => .bool b) := by
  subst he; subst hb; exact c_isleap w y' ty

set_option maxRecDepth 100000 in
set_option maxHeartbeats 8000000 in
theorem c_legal (w : World) (y mo d : Int) (ty tm td : Tok) (hm : 1 ≤ mo ∧ mo ≤ 12) (hd1 : 1 ≤ d ∧ d ≤ 28) : Cl w 57 2 [.int y ty, .int mo tm, .int d td] (Gives1 fun _ => .bool true) := by
  obtain ⟨hm1, hm2⟩ := hm
  obtain ⟨hd1, hd2⟩ := hd1
  k_with_none
  k_with "cr" => (k_here; (with_reducible refine' Cl.use (c_isleap _ _ _) ?kA ?k1 ?k2 ?k3 ?k4 ?k5 ?kK ?kd ?ku ?_); (case kA => k_dflt (exact rfl)); (case k1 => k_asm); (case k2 => k_asm); (case k3 => k_asm); (case k4 => k_asm); (case k5 => k_asm); (case kK => first | exact rfl | assumption); (case kd => ktr_room); (case ku => ktr_units); intro t9 h9 tk9 F9 N9; (try dsimp only); (try k_fold); (try k_sweep))
  dsimp only [Cl, MTop, Gives1]
  k_fill
  intro mean mg mb dp un gd cn cs a ccd cl outer A₀ base h₀ L m news s Q E B F X N T hk hd hu hret
  refine wpAny_call ?_
  k_dflt cell_enter
  k_steps
  all_goals (refine' cb_retB (Q := Q) (s := s) hret ?e1 ?e2 ?e3; (case e2 => k_asm); (case e3 => k_asm); (case e1 => rfl))

set_option maxRecDepth 100000 in
set_option maxHeartbeats 8000000 in
theorem c_jdg (w : World) (y mo d : Int) (ty tm td : Tok) (hy : 1 ≤ y ∧ y ≤ 2000000) (hm : 1 ≤ mo ∧ mo ≤ 12) (hd1 : 1 ≤ d ∧ d ≤ 28) : Cl w 64 3 [.int y ty, .int mo tm, .int d td] (Gives1 fun t => .float (H (G y mo d)) t) := by
  obtain ⟨hy1, hy2⟩ := hy
  obtain ⟨hm1, hm2⟩ := hm
  obtain ⟨hd1, hd2⟩ := hd1
  k_with_none
  k_with "cr" => (k_here; (first | with_reducible refine' Cl.use (c_isleap _ _ _) ?kA ?k1 ?k2 ?k3 ?k4 ?k5 ?kK ?kd ?ku ?_ | ((with_reducible refine' Cl.use (c_legal _ _ _ _ _ _ _ ?kp ?kq) ?kA ?k1 ?k2 ?k3 ?k4 ?k5 ?kK ?kd ?ku ?_); (case kp => constructor <;> omega); (case kq => constructor <;> omega))); (case kA => k_dflt (exact rfl)); (case k1 => k_asm); (case k2 => k_asm); (case k3 => k_asm); (case k4 => k_asm); (case k5 => k_asm); (case kK => first | exact rfl | assumption); (case kd => ktr_room); (case ku => ktr_units); intro t9 h9 tk9 F9 N9; (try dsimp only); (try k_fold); (try k_sweep))
  dsimp only [Cl, MTop, Gives1]
  k_fill
  intro mean mg mb dp un gd cn cs a ccd cl outer A₀ base h₀ L m news s Q E B F X N T hk hd hu hret
  refine wpAny_call ?_
  k_dflt cell_enter
  k_steps
  all_goals (refine' ret_f (Q := Q) (s := s) hret ?e1 ?e2 ?e3; (case e2 => k_asm); (case e3 => k_asm); (case e1 => first | (rw [g1 (by omega)]; omega) | (rw [g2 (by omega) (by simpa using ‹_›)]; omega)| (rw [g3 (by omega) (by simpa using ‹_›)]; omega)))
theorem c_jdgE (w : World) (y' mo' y mo d : Int) (ty tm td : Tok) (hey : y' = y) (hem : mo' = mo) (hy : 1 ≤ y ∧ y ≤ 2000000) (hm : 1 ≤ mo ∧ mo ≤ 12) (hd1 : 1 ≤ d ∧ d ≤ 28) : Cl w 64 3 [.int y' ty, .int mo' tm, .int d td] (Gives1 fun t => .float (H (G y mo d)) t) := by
  subst hey; subst hem; exact c_jdg w y' mo' d ty tm td hy hm hd1
end Mine
namespace Mine
def FY (y m : Int) : Int := if m < 11 then y + 78 else y + 79
def FM (m : Int) : Int := if m < 11 then m + 2 else m - 10
def FD (y m : Int) : Int := if m = 1 then (if leapB (y + 78) then 21 else 22) else [21, 22, 22, 23, 23, 23, 23, 22, 22, 21, 20].getD (m - 2).toNat 0
theorem fd_pos {y m : Int} (h : m = 1) (hl : leapB (y + 78) = true) : 21 = FD y m := by unfold FD; rw [if_pos h, if_pos hl]
theorem fd_neg {y m : Int} (h : m = 1) (hl : ¬ leapB (y + 78) = true) : 22 = FD y m := by unfold FD; rw [if_pos h, if_neg hl]
theorem fd_oth {y m : Int} (h : ¬ m = 1) : [21, 22, 22, 23, 23, 23, 23, 22, 22, 21, 20].getD (m - 2).toNat 0 = FD y m := by unfold FD; rw [if_neg h]

set_option maxRecDepth 100000 in
set_option maxHeartbeats 8000000 in
theorem c_first (w : World) (y mo : Int) (ty tm : Tok) (hy : 1 ≤ y ∧ y ≤ 1000001) (hm : 1 ≤ mo ∧ mo ≤ 12) : Cl w 121 2 [.int y ty, .int mo tm] (Gives3 (FY y mo) (FM mo) (FD y mo)) := by
  obtain ⟨hy1, hy2⟩ := hy
  obtain ⟨hm1, hm2⟩ := hm
  k_with_none
  dsimp only [Cl, MTop, Gives3]
  k_fill
  intro mean mg mb dp un gd cn cs a ccd cl outer A₀ base h₀ L m news s Q E B F X N T hk hd hu hret
  refine wpAny_call ?_
  k_dflt cell_enter
  k_steps
  all_goals (refine' ret_3 (Q := Q) (s := s) hret ?e1 ?e2 ?e3 ?eF ?eN ?eM ?eS; (case eF => k_asm); (case eN => k_asm); (case eM => k_mem); (case eS => kcj_all); (case e1 => (unfold FY; split <;> omega)); (case e2 => (unfold FM; split <;> omega)); (case e3 => (first | exact fd_oth (by omega) | exact fd_pos (by omega) (by have := fm (y + 78); rw [leap_iff]; omega) | exact fd_neg (by omega) (by have := fm (y + 78); rw [leap_iff]; omega))))
end Mine
namespace Mine
/-- what from_jd (Gregorian) reckons on its way; yr: the year is y -/
structure Steps (n k D q d1 ce d2 qu d3 yi y doy mo d : Int) : Prop where
  h0 : Eqn (2 * k + 1 - 3442851) (2 * D)
  h1 : Eqn ((n - 1) / 2) k
  h3 : Eqn (2 * D / (2 * 146097)) q
  h4 : Eqn (2 * D % (2 * 146097)) (2 * d1)
  h5 : Eqn (2 * d1 / (2 * 36524)) ce
  h6 : Eqn (2 * d1 % (2 * 36524)) (2 * d2)
  h7 : Eqn (2 * d2 / (2 * 1461)) qu
  h8 : Eqn (2 * d2 % (2 * 1461)) (2 * d3)
  h9 : Eqn (2 * d3 / (2 * 365)) yi
  bn : 1 ≤ n ∧ n < 2000000000
  bk : 0 ≤ k ∧ k < 1000000000
  bD : 0 ≤ D ∧ D < 1000000000
  b1 : 0 ≤ d1 ∧ d1 < 146097
  b2 : 0 ≤ d2 ∧ d2 < 36524
  b3 : 0 ≤ d3 ∧ d3 < 1461
  bq : 0 ≤ q ∧ q < 10000
  bc : 0 ≤ ce ∧ ce ≤ 4
  bqu : 0 ≤ qu ∧ qu ≤ 24
  byi : 0 ≤ yi ∧ yi ≤ 4
  hy : 1 ≤ y ∧ y ≤ 2000000
  hyA : (ce = 4 ∨ yi = 4) → Eqn (q * 400 + ce * 100 + qu * 4 + yi) y
  hyB : ¬ (ce = 4 ∨ yi = 4) → Eqn (q * 400 + ce * 100 + qu * 4 + yi + 1) y
  hdoy : Eqn (2 * k + 1 - G y 1 1) (2 * doy)
  bdoy : 0 ≤ doy ∧ doy ≤ 365
  hmo : 1 ≤ mo ∧ mo ≤ 12
  hday : Eqn (2 * k + 1 - G y mo 1) (2 * (d - 1))
  hda : Eqn (2 * (d - 1) / 2) (d - 1)
  bd : 1 ≤ d ∧ d ≤ 31
  bG1 : 0 ≤ G y 1 1 ∧ G y 1 1 < 2000000000
  bG2 : 0 ≤ G y mo 1 ∧ G y mo 1 < 2000000000


/-- days of the year ahead of a month's first -/
def st (l : Bool) (m : Int) : Int := (367 * m - 362) / 12 + (if m ≤ 2 then 0 else if l then -1 else -2)
theorem G_st (y m d : Int) : G y m d = G y 1 1 + 2 * (st (leapB y) m + d - 1) := by
  unfold G st adj
  have : (367 * 1 - 362 : Int) / 12 = 0 := by decide
  rw [this]
  rw [if_pos (show (1 : Int) ≤ 2 by decide)]
  omega
theorem G11 (y : Int) : G y 1 1 = 3442851 + 2 * (365 * (y - 1) + (y - 1) / 4 - (y - 1) / 100 + (y - 1) / 400) := by
  rw [g1 (by decide)]
  have : (367 * 1 - 362 : Int) / 12 = 0 := by decide
  rw [this]
  omega
theorem G11_b {y : Int} (hy : 1 ≤ y ∧ y ≤ 2000000) : 3442851 ≤ G y 1 1 ∧ G y 1 1 < 1500000000 := by
  rw [G11]; omega
theorem st_b (l : Bool) {m : Int} (hm : 1 ≤ m ∧ m ≤ 12) : 0 ≤ st l m ∧ st l m ≤ 335 := by
  unfold st
  have : m = 1 ∨ m = 2 ∨ m = 3 ∨ m = 4 ∨ m = 5 ∨ m = 6 ∨ m = 7 ∨ m = 8 ∨ m = 9 ∨ m = 10 ∨ m = 11 ∨ m = 12 := by omega
  cases l <;> rcases this with h | h | h | h | h | h | h | h | h | h | h | h <;> subst h <;> decide

/-- the month and the day of a day of the year -/
def gm (l : Bool) (doy : Int) : Int := if doy < 58 + (if l then 1 else 0) then ((2 * doy + 2 * 0) * 12 + 2 * 373) / (2 * 367) else if l then ((2 * doy + 2 * 1) * 12 + 2 * 373) / (2 * 367) else ((2 * doy + 2 * 2) * 12 + 2 * 373) / (2 * 367)
theorem gmT1 {doy : Int} (h : doy < 59) : ((2 * doy + 2 * 0) * 12 + 2 * 373) / (2 * 367) = gm true doy := by
  unfold gm
  simp only [if_true]
  rw [if_pos (by omega)]
theorem gmT2 {doy : Int} (h : ¬ doy < 59) : ((2 * doy + 2 * 1) * 12 + 2 * 373) / (2 * 367) = gm true doy := by
  unfold gm
  simp only [if_true]
  rw [if_neg (by omega)]
theorem gmF1 {doy : Int} (h : doy < 58) : ((2 * doy + 2 * 0) * 12 + 2 * 373) / (2 * 367) = gm false doy := by
  unfold gm
  simp only [Bool.false_eq_true, if_false]
  rw [if_pos (by omega)]
theorem gmF2 {doy : Int} (h : ¬ doy < 58) : ((2 * doy + 2 * 2) * 12 + 2 * 373) / (2 * 367) = gm false doy := by
  unfold gm
  simp only [Bool.false_eq_true, if_false]
  rw [if_neg (by omega)]
def gd (l : Bool) (doy : Int) : Int := doy - st l (gm l doy) + 1
def ydays (l : Bool) : Int := if l then 366 else 365

theorem gm_b (l : Bool) {doy : Int} (h : 0 ≤ doy ∧ doy < ydays l) : 1 ≤ gm l doy ∧ gm l doy ≤ 12 := by
  unfold gm ydays at *
  cases l
  · simp only [Bool.false_eq_true, if_false] at *
    split <;> omega
  · simp only [if_true] at *
    split <;> omega
theorem gd_b (l : Bool) {doy : Int} (h : 0 ≤ doy ∧ doy < ydays l) : 1 ≤ gd l doy ∧ gd l doy ≤ 31 := by
  have hb := gm_b l h
  unfold gd
  have : gm l doy = 1 ∨ gm l doy = 2 ∨ gm l doy = 3 ∨ gm l doy = 4 ∨ gm l doy = 5 ∨ gm l doy = 6 ∨ gm l doy = 7 ∨ gm l doy = 8 ∨ gm l doy = 9 ∨ gm l doy = 10 ∨ gm l doy = 11 ∨ gm l doy = 12 := by omega
  cases l
  · rcases this with e | e | e | e | e | e | e | e | e | e | e | e <;> rw [e] <;> unfold gm ydays st at * <;> simp only [Bool.false_eq_true, if_false] at * <;> (first | rw [if_pos (by decide)] | rw [if_neg (by decide)]) <;> split at e <;> omega
  · rcases this with e | e | e | e | e | e | e | e | e | e | e | e <;> rw [e] <;> unfold gm ydays st at * <;> simp only [if_true] at * <;> (first | rw [if_pos (by decide)] | rw [if_neg (by decide)]) <;> split at e <;> omega

theorem year_of {y doy D a b c e : Int} (hy : y - 1 = 400 * a + 100 * b + 4 * c + e) (hb : 0 ≤ b ∧ b ≤ 3) (hc : 0 ≤ c ∧ c ≤ 24) (he : 0 ≤ e ∧ e ≤ 3) (ha : 0 ≤ a)
    (hD : D = 146097 * a + 36524 * b + 1461 * c + 365 * e + doy) (h0 : 0 ≤ doy) (h1 : doy ≤ 365) (hl : doy = 365 → e = 3 ∧ (c = 24 → b = 3)) :
    D / 146097 = a ∧
    ((b = 3 ∧ c = 24 ∧ e = 3 ∧ doy = 365) → D % 146097 / 36524 = 4 ∧ D % 146097 % 36524 / 1461 = 0 ∧ D % 146097 % 36524 % 1461 / 365 = 0) ∧
    (¬ (b = 3 ∧ c = 24 ∧ e = 3 ∧ doy = 365) → D % 146097 / 36524 = b ∧ D % 146097 % 36524 / 1461 = c ∧ (doy = 365 → D % 146097 % 36524 % 1461 / 365 = 4) ∧ (doy < 365 → D % 146097 % 36524 % 1461 / 365 = e)) := by
  have q : D / 146097 = a := by omega
  have r : D % 146097 = 36524 * b + 1461 * c + 365 * e + doy := by omega
  rw [r]
  refine ⟨q, fun h => ?_, fun h => ?_⟩
  · obtain ⟨rfl, rfl, rfl, rfl⟩ := h
    decide
  · have hlt : 1461 * c + 365 * e + doy < 36524 := by omega
    have q2 : (36524 * b + 1461 * c + 365 * e + doy) / 36524 = b := by omega
    have r2 : (36524 * b + 1461 * c + 365 * e + doy) % 36524 = 1461 * c + 365 * e + doy := by omega
    rw [r2]
    have q3 : (1461 * c + 365 * e + doy) / 1461 = c := by omega
    have r3 : (1461 * c + 365 * e + doy) % 1461 = 365 * e + doy := by omega
    rw [r3]
    exact ⟨q2, q3, fun h => by omega, fun h => by omega⟩

theorem year_eq {y doy D : Int} (hy : 1 ≤ y ∧ y ≤ 2000000) (hd : 0 ≤ doy ∧ doy < ydays (leapB y)) (hD : 2 * D = G y 1 1 + 2 * doy - 3442851) :
    ((D % 146097 / 36524 = 4 ∨ D % 146097 % 36524 % 1461 / 365 = 4) → D / 146097 * 400 + D % 146097 / 36524 * 100 + D % 146097 % 36524 / 1461 * 4 + D % 146097 % 36524 % 1461 / 365 = y) ∧
    (¬ (D % 146097 / 36524 = 4 ∨ D % 146097 % 36524 % 1461 / 365 = 4) → D / 146097 * 400 + D % 146097 / 36524 * 100 + D % 146097 % 36524 / 1461 * 4 + D % 146097 % 36524 % 1461 / 365 + 1 = y) ∧
    (leapB y = false → ¬ D % 146097 / 36524 = 4 ∧ ¬ D % 146097 % 36524 % 1461 / 365 = 4) := by
  rw [G11] at hD
  have hl := leap_iff y
  have hd2 : doy ≤ 365 ∧ (doy = 365 → leapB y = true) := by
    unfold ydays at hd
    split at hd
    · rename_i h; exact ⟨by omega, fun _ => h⟩
    · exact ⟨by omega, fun _ => by omega⟩
  generalize ha : (y - 1) / 400 = a at *
  generalize hr : (y - 1) % 400 = r at *
  generalize hb : r / 100 = b at *
  generalize hr2 : r % 100 = r2 at *
  generalize hc : r2 / 4 = c at *
  generalize he : r2 % 4 = e at *
  have e1 : (y - 1) / 4 = 100 * a + 25 * b + c := by omega
  have e2 : (y - 1) / 100 = 4 * a + b := by omega
  have e3 : y - 1 = 400 * a + 100 * b + 4 * c + e := by omega
  have hb' : 0 ≤ b ∧ b ≤ 3 := by omega
  have hc' : 0 ≤ c ∧ c ≤ 24 := by omega
  have he' : 0 ≤ e ∧ e ≤ 3 := by omega
  have ha' : 0 ≤ a := by omega
  rw [e1, e2] at hD
  have hD' : D = 146097 * a + 36524 * b + 1461 * c + 365 * e + doy := by omega
  have hlp : doy = 365 → e = 3 ∧ (c = 24 → b = 3) := fun h => by
    have := hl.mp (hd2.2 h)
    omega
  obtain ⟨q1, q2, q3⟩ := year_of e3 hb' hc' he' ha' hD' hd.1 hd2.1 hlp
  by_cases hs : b = 3 ∧ c = 24 ∧ e = 3 ∧ doy = 365
  · obtain ⟨q4, q5, q6⟩ := q2 hs
    rw [q1, q4, q5, q6]
    refine ⟨fun _ => by omega, fun h => absurd (.inl rfl) h, fun h => ?_⟩
    rw [hd2.2 hs.2.2.2] at h
    cases h
  · obtain ⟨q4, q5, q6, q7⟩ := q3 hs
    rw [q1, q4, q5]
    by_cases h365 : doy = 365
    · rw [q6 h365]
      have := hlp h365
      refine ⟨fun _ => by omega, fun h => absurd (.inr rfl) h, fun h => ?_⟩
      rw [hd2.2 h365] at h
      cases h
    · rw [q7 (by omega)]
      exact ⟨fun h => by omega, fun h => by omega, fun _ => by omega⟩

theorem steps_of {y doy : Int} (hy : 1 ≤ y ∧ y ≤ 2000000) (hd : 0 ≤ doy ∧ doy < ydays (leapB y)) :
    ∃ k D q d1 ce d2 qu d3 yi, Steps (G y 1 1 + 2 * doy) k D q d1 ce d2 qu d3 yi y doy (gm (leapB y) doy) (gd (leapB y) doy) ∧ (leapB y = false → ¬ ce = 4 ∧ ¬ yi = 4) := by
  have hG := G11_b hy
  have hdb : doy ≤ 365 := by unfold ydays at hd; split at hd <;> omega
  have hodd : G y 1 1 % 2 = 1 := by rw [G11]; omega
  have hm := gm_b (leapB y) hd
  have hdd := gd_b (leapB y) hd
  have hG2 : G y (gm (leapB y) doy) 1 = G y 1 1 + 2 * st (leapB y) (gm (leapB y) doy) := by rw [G_st]; omega
  have hst := st_b (leapB y) hm
  have hgd : gd (leapB y) doy = doy - st (leapB y) (gm (leapB y) doy) + 1 := rfl
  obtain ⟨k, hk⟩ : ∃ k, G y 1 1 + 2 * doy = 2 * k + 1 := ⟨(G y 1 1 + 2 * doy - 1) / 2, by omega⟩
  obtain ⟨D, hD⟩ : ∃ D, 2 * D = G y 1 1 + 2 * doy - 3442851 := ⟨(G y 1 1 + 2 * doy - 3442851) / 2, by omega⟩
  obtain ⟨yA, yB, yC⟩ := year_eq hy hd hD
  refine ⟨k, D, D / 146097, D % 146097, D % 146097 / 36524, D % 146097 % 36524, D % 146097 % 36524 / 1461, D % 146097 % 36524 % 1461, D % 146097 % 36524 % 1461 / 365, ?_, yC⟩
  have b1 : 0 ≤ D % 146097 ∧ D % 146097 < 146097 := by omega
  have h3 : 2 * D / (2 * 146097) = D / 146097 := by omega
  have h4 : 2 * D % (2 * 146097) = 2 * (D % 146097) := by omega
  have bq : 0 ≤ D / 146097 ∧ D / 146097 < 10000 := by omega
  generalize D % 146097 = d1 at *
  generalize D / 146097 = q at *
  have b2 : 0 ≤ d1 % 36524 ∧ d1 % 36524 < 36524 := by omega
  have bc : 0 ≤ d1 / 36524 ∧ d1 / 36524 ≤ 4 := by omega
  have h6 : 2 * d1 % (2 * 36524) = 2 * (d1 % 36524) := by omega
  have h5 : 2 * d1 / (2 * 36524) = d1 / 36524 := by omega
  generalize d1 % 36524 = d2 at *
  have b3 : 0 ≤ d2 % 1461 ∧ d2 % 1461 < 1461 := by omega
  have bqu : 0 ≤ d2 / 1461 ∧ d2 / 1461 ≤ 24 := by omega
  have h8 : 2 * d2 % (2 * 1461) = 2 * (d2 % 1461) := by omega
  have h7 : 2 * d2 / (2 * 1461) = d2 / 1461 := by omega
  generalize d2 % 1461 = d3 at *
  have byi : 0 ≤ d3 / 365 ∧ d3 / 365 ≤ 4 := by omega
  have h9 : 2 * d3 / (2 * 365) = d3 / 365 := by omega
  exact {
    h0 := Eqn.mk (by omega)
    h1 := Eqn.mk (by omega)
    h3 := Eqn.mk h3
    h4 := Eqn.mk h4
    h5 := Eqn.mk h5
    h6 := Eqn.mk h6
    h7 := Eqn.mk h7
    h8 := Eqn.mk h8
    h9 := Eqn.mk h9
    bn := by omega
    bk := by omega
    bD := by omega
    b1 := b1
    b2 := b2
    b3 := b3
    bq := bq
    bc := bc
    bqu := bqu
    byi := byi
    hy := hy
    hyA := fun h => Eqn.mk (yA h)
    hyB := fun h => Eqn.mk (yB h)
    hdoy := Eqn.mk (by omega)
    bdoy := ⟨hd.1, hdb⟩
    hmo := hm
    hday := Eqn.mk (by omega)
    hda := Eqn.mk (by omega)
    bd := hdd
    bG1 := by omega
    bG2 := by omega }

end Mine
namespace Mine

theorem or1 {ce yi : Int} (h : ce = 4) : ce = 4 ∨ yi = 4 := .inl h
theorem or2 {ce yi : Int} (h : yi = 4) : ce = 4 ∨ yi = 4 := .inr h
theorem or3 {ce yi : Int} (h : ¬ ce = 4) (h' : ¬ yi = 4) : ¬ (ce = 4 ∨ yi = 4) := fun x => x.elim h h'

set_option maxRecDepth 100000 in
set_option maxHeartbeats 8000000 in
theorem c_fjg_T (w : World) (n k D q d1 ce d2 qu d3 yi y doy mo d : Int) (tj : Tok) (S : Steps n k D q d1 ce d2 qu d3 yi y doy mo d) (hl : leapB y = true)
    (hmA : doy < 59 → Eqn (((2 * doy + 2 * 0) * 12 + 2 * 373) / (2 * 367)) mo) (hmB : ¬ doy < 59 → Eqn (((2 * doy + 2 * 1) * 12 + 2 * 373) / (2 * 367)) mo) :
    Cl w 71 4 [.float (H n) tj] (Gives3 y mo d) := by
  obtain ⟨h0, h1, h3, h4, h5, h6, h7, h8, h9, bn, bk, bD, b1, b2, b3, bq, bc, bqu, byi, hy, hyA, hyB, hdoy, bdoy, hmo, hday, hda, bd, bG1, bG2⟩ := S
  k_with_none
  k_with "yr" => (first | exact (hyA (or1 (by assumption))).out | exact (hyA (or2 (by assumption))).out | exact (hyB (or3 (by assumption) (by assumption))).out)
  k_with "cr" => (k_here; (first | ((with_reducible refine' Cl.use (c_isleapE w _ y _ true ?he hl) ?kA ?k1 ?k2 ?k3 ?k4 ?k5 ?kK ?kd ?ku ?_); (case he => k_extra "yr")) | ((with_reducible refine' Cl.use (c_jdgE w _ 1 y 1 _ _ _ _ ?he ?hf ?kp ?kq ?kr) ?kA ?k1 ?k2 ?k3 ?k4 ?k5 ?kK ?kd ?ku ?_); (case he => k_extra "yr"); (case hf => rfl); (case kp => exact hy); (case kq => decide); (case kr => decide)) | ((with_reducible refine' Cl.use (c_jdgE w _ _ y mo _ _ _ _ ?he ?hf ?kp ?kq ?kr) ?kA ?k1 ?k2 ?k3 ?k4 ?k5 ?kK ?kd ?ku ?_); (case he => k_extra "yr"); (case hf => first | exact (hmA (by omega)).out | exact (hmB (by omega)).out); (case kp => exact hy); (case kq => exact hmo); (case kr => decide))); (case kA => k_dflt (exact rfl)); (case k1 => k_asm); (case k2 => k_asm); (case k3 => k_asm); (case k4 => k_asm); (case k5 => k_asm); (case kK => first | exact rfl | assumption); (case kd => ktr_room); (case ku => ktr_units); intro t9 h9 tk9 F9 N9; (try dsimp only); (try k_fold); (try k_sweep))
  dsimp only [Cl, MTop, Gives3]
  k_fill
  intro mean mg mb dp un gd cn cs a ccd cl outer A₀ base h₀ L m news s Q E B F X N T hk hdp hu hret
  refine wpAny_call ?_
  k_dflt cell_enter
  k_steps
  all_goals (refine' ret_3 (Q := Q) (s := s) hret ?e1 ?e2 ?e3 ?eF ?eN ?eM ?eS; (case eF => k_asm); (case eN => k_asm); (case eM => k_mem); (case eS => kcj_all); (case e1 => k_extra "yr"); (case e2 => (first | exact (hmA (by omega)).out | exact (hmB (by omega)).out)); (case e3 => omega))

set_option maxRecDepth 100000 in
set_option maxHeartbeats 8000000 in
theorem c_fjg_F (w : World) (n k D q d1 ce d2 qu d3 yi y doy mo d : Int) (tj : Tok) (S : Steps n k D q d1 ce d2 qu d3 yi y doy mo d) (hl : leapB y = false) (hce : ¬ ce = 4) (hyi : ¬ yi = 4)
    (hmA : doy < 58 → Eqn (((2 * doy + 2 * 0) * 12 + 2 * 373) / (2 * 367)) mo) (hmB : ¬ doy < 58 → Eqn (((2 * doy + 2 * 2) * 12 + 2 * 373) / (2 * 367)) mo) :
    Cl w 71 4 [.float (H n) tj] (Gives3 y mo d) := by
  obtain ⟨h0, h1, h3, h4, h5, h6, h7, h8, h9, bn, bk, bD, b1, b2, b3, bq, bc, bqu, byi, hy, hyA, hyB, hdoy, bdoy, hmo, hday, hda, bd, bG1, bG2⟩ := S
  have hyr := hyB (or3 hce hyi)
  clear hyA hyB
  k_with_none
  k_with "cr" => (k_here; first | (exfalso; first | exact hce (by assumption) | exact hyi (by assumption)) | skip; (first | ((with_reducible refine' Cl.use (c_isleapE w _ y _ false ?he hl) ?kA ?k1 ?k2 ?k3 ?k4 ?k5 ?kK ?kd ?ku ?_); (case he => exact hyr.out)) | ((with_reducible refine' Cl.use (c_jdgE w _ 1 y 1 _ _ _ _ ?he ?hf ?kp ?kq ?kr) ?kA ?k1 ?k2 ?k3 ?k4 ?k5 ?kK ?kd ?ku ?_); (case he => exact hyr.out); (case hf => rfl); (case kp => exact hy); (case kq => decide); (case kr => decide)) | ((with_reducible refine' Cl.use (c_jdgE w _ _ y mo _ _ _ _ ?he ?hf ?kp ?kq ?kr) ?kA ?k1 ?k2 ?k3 ?k4 ?k5 ?kK ?kd ?ku ?_); (case he => exact hyr.out); (case hf => first | exact (hmA (by omega)).out | exact (hmB (by omega)).out); (case kp => exact hy); (case kq => exact hmo); (case kr => decide))); (case kA => k_dflt (exact rfl)); (case k1 => k_asm); (case k2 => k_asm); (case k3 => k_asm); (case k4 => k_asm); (case k5 => k_asm); (case kK => first | exact rfl | assumption); (case kd => ktr_room); (case ku => ktr_units); intro t9 h9 tk9 F9 N9; (try dsimp only); (try k_fold); (try k_sweep))
  dsimp only [Cl, MTop, Gives3]
  k_fill
  intro mean mg mb dp un gd cn cs a ccd cl outer A₀ base h₀ L m news s Q E B F X N T hk hdp hu hret
  refine wpAny_call ?_
  k_dflt cell_enter
  k_steps
  all_goals (refine' ret_3 (Q := Q) (s := s) hret ?e1 ?e2 ?e3 ?eF ?eN ?eM ?eS; (case eF => k_asm); (case eN => k_asm); (case eM => k_mem); (case eS => kcj_all); (case e1 => exact hyr.out); (case e2 => (first | exact (hmA (by omega)).out | exact (hmB (by omega)).out)); (case e3 => omega))

/-- from_jd (Gregorian) at the day doy of the year y -/
theorem c_fjg (w : World) (n y doy : Int) (tj : Tok) (hy : 1 ≤ y ∧ y ≤ 2000000) (hd : 0 ≤ doy ∧ doy < ydays (leapB y)) (hn : n = G y 1 1 + 2 * doy) :
    Cl w 71 4 [.float (H n) tj] (Gives3 y (gm (leapB y) doy) (gd (leapB y) doy)) := by
  subst hn
  obtain ⟨k, D, q, d1, ce, d2, qu, d3, yi, S, hF⟩ := steps_of hy hd
  cases hl : leapB y with
  | true =>
    rw [hl] at S
    exact c_fjg_T w _ k D q d1 ce d2 qu d3 yi y doy _ _ tj S hl (fun h => Eqn.mk (gmT1 h)) (fun h => Eqn.mk (gmT2 h))
  | false =>
    rw [hl] at S
    exact c_fjg_F w _ k D q d1 ce d2 qu d3 yi y doy _ _ tj S hl (hF hl).1 (hF hl).2 (fun h => Eqn.mk (gmF1 h)) (fun h => Eqn.mk (gmF2 h))
end Mine
namespace Mine

/-- days of the Indian year ahead of a month's first -/
def ioff (l : Bool) (m : Int) : Int := if m = 1 then 0 else (if l then 31 else 30) + (if m - 2 < 5 then m - 2 else 5) * 31 + (if 8 ≤ m then (m - 7) * 30 else 0)
def I0 (y : Int) : Int := G (y + 78) 3 (if leapB (y + 78) then 21 else 22)
/-- halves of days up to an Indian date, as to_jd reckons it -/
def IJ (y m d : Int) : Int := I0 y + 2 * (ioff (leapB (y + 78)) m + d - 1)

set_option maxRecDepth 100000 in
set_option maxHeartbeats 8000000 in
theorem c_jdi_T (w : World) (y mo d : Int) (ty tm td : Tok) (hy : 1 ≤ y ∧ y ≤ 1000001) (hm : 1 ≤ mo ∧ mo ≤ 12) (hd1 : 1 ≤ d ∧ d ≤ 31) (hl : leapB (y + 78) = true) (bG : 0 ≤ G (y + 78) 3 (22 - 1) ∧ G (y + 78) 3 (22 - 1) < 2000000000) :
    Cl w 79 4 [.int y ty, .int mo tm, .int d td] (Gives1 fun t => .float (H (G (y + 78) 3 (22 - 1) + 2 * (ioff true mo + d - 1))) t) := by
  k_with_none
  k_with "cr" => (k_here; (first | (with_reducible refine' Cl.use (c_isleapE w _ _ _ true rfl hl) ?kA ?k1 ?k2 ?k3 ?k4 ?k5 ?kK ?kd ?ku ?_) | ((with_reducible refine' Cl.use (c_jdg w _ _ _ _ _ _ ?kp ?kq ?kr) ?kA ?k1 ?k2 ?k3 ?k4 ?k5 ?kK ?kd ?ku ?_); (case kp => constructor <;> omega); (case kq => decide); (case kr => decide))); (case kA => k_dflt (exact rfl)); (case k1 => k_asm); (case k2 => k_asm); (case k3 => k_asm); (case k4 => k_asm); (case k5 => k_asm); (case kK => first | exact rfl | assumption); (case kd => ktr_room); (case ku => ktr_units); intro t9 h9 tk9 F9 N9; (try dsimp only); (try k_fold); (try k_sweep))
  dsimp only [Cl, MTop, Gives1]
  k_fill
  intro mean mg mb dp un gd cn cs a ccd cl outer A₀ base h₀ L m news s Q E B F X N T hk hdp hu hret
  refine wpAny_call ?_
  k_dflt cell_enter
  k_steps
  all_goals (refine' ret_f (Q := Q) (s := s) hret ?e1 ?e2 ?e3; (case e2 => k_asm); (case e3 => k_asm); (case e1 => unfold ioff; simp only [if_true]; (repeat' split) <;> omega))

set_option maxRecDepth 100000 in
set_option maxHeartbeats 8000000 in
theorem c_jdi_F (w : World) (y mo d : Int) (ty tm td : Tok) (hy : 1 ≤ y ∧ y ≤ 1000001) (hm : 1 ≤ mo ∧ mo ≤ 12) (hd1 : 1 ≤ d ∧ d ≤ 31) (hl : leapB (y + 78) = false) (bG : 0 ≤ G (y + 78) 3 (22 - 0) ∧ G (y + 78) 3 (22 - 0) < 2000000000) :
    Cl w 79 4 [.int y ty, .int mo tm, .int d td] (Gives1 fun t => .float (H (G (y + 78) 3 (22 - 0) + 2 * (ioff false mo + d - 1))) t) := by
  k_with_none
  k_with "cr" => (k_here; (first | (with_reducible refine' Cl.use (c_isleapE w _ _ _ false rfl hl) ?kA ?k1 ?k2 ?k3 ?k4 ?k5 ?kK ?kd ?ku ?_) | ((with_reducible refine' Cl.use (c_jdg w _ _ _ _ _ _ ?kp ?kq ?kr) ?kA ?k1 ?k2 ?k3 ?k4 ?k5 ?kK ?kd ?ku ?_); (case kp => constructor <;> omega); (case kq => decide); (case kr => decide))); (case kA => k_dflt (exact rfl)); (case k1 => k_asm); (case k2 => k_asm); (case k3 => k_asm); (case k4 => k_asm); (case k5 => k_asm); (case kK => first | exact rfl | assumption); (case kd => ktr_room); (case ku => ktr_units); intro t9 h9 tk9 F9 N9; (try dsimp only); (try k_fold); (try k_sweep))
  dsimp only [Cl, MTop, Gives1]
  k_fill
  intro mean mg mb dp un gd cn cs a ccd cl outer A₀ base h₀ L m news s Q E B F X N T hk hdp hu hret
  refine wpAny_call ?_
  k_dflt cell_enter
  k_steps
  all_goals (refine' ret_f (Q := Q) (s := s) hret ?e1 ?e2 ?e3; (case e2 => k_asm); (case e3 => k_asm); (case e1 => unfold ioff; simp only [Bool.false_eq_true, if_false]; (repeat' split) <;> omega))

theorem G_b {y m d : Int} (hy : 1 ≤ y ∧ y ≤ 2000000) (hm : 1 ≤ m ∧ m ≤ 12) (hd : 1 ≤ d ∧ d ≤ 31) : 0 ≤ G y m d ∧ G y m d < 2000000000 := by
  have h1 := G11_b hy
  have h2 := st_b (leapB y) hm
  rw [G_st]
  omega
theorem c_jdi (w : World) (y mo d : Int) (ty tm td : Tok) (hy : 1 ≤ y ∧ y ≤ 1000001) (hm : 1 ≤ mo ∧ mo ≤ 12) (hd1 : 1 ≤ d ∧ d ≤ 31) :
    Cl w 79 4 [.int y ty, .int mo tm, .int d td] (Gives1 fun t => .float (H (IJ y mo d)) t) := by
  unfold IJ I0
  cases hl : leapB (y + 78) with
  | true =>
    rw [if_pos rfl]
    exact c_jdi_T w y mo d ty tm td hy hm hd1 hl (G_b (by omega) (by decide) (by decide))
  | false =>
    rw [if_neg (by decide)]
    exact c_jdi_F w y mo d ty tm td hy hm hd1 hl (G_b (by omega) (by decide) (by decide))
end Mine
namespace Mine

/-- the Indian date of a day of the Gregorian year -/
def iiy (y doy : Int) : Int := if doy < 80 then y - 79 else y - 78
def iim (l : Bool) (doy : Int) : Int := if doy < 80 then (doy + 100) / 30 + 7 else if doy - 80 < (if l then 31 else 30) then 1 else if doy - 80 - (if l then 31 else 30) < 155 then (doy - 80 - (if l then 31 else 30)) / 31 + 2 else (doy - 80 - (if l then 31 else 30) - 155) / 30 + 7
def iid (l : Bool) (doy : Int) : Int := if doy < 80 then (doy + 100) % 30 + 1 else if doy - 80 < (if l then 31 else 30) then doy - 79 else if doy - 80 - (if l then 31 else 30) < 155 then (doy - 80 - (if l then 31 else 30)) % 31 + 1 else (doy - 80 - (if l then 31 else 30) - 155) % 30 + 1

set_option maxRecDepth 100000 in
set_option maxHeartbeats 8000000 in
theorem c_fji_T (w : World) (n y doy : Int) (tj : Tok) (hn : Eqn n (G y 1 1 + 2 * doy)) (h2 : Eqn (2 * (n / 2) + 1) n) (h3 : Eqn (n - G y 1 1) (2 * doy)) (bn : 0 ≤ n ∧ n < 2000000000) (bG : 0 ≤ G y 1 1 ∧ G y 1 1 < 2000000000) (hy : 1 ≤ y ∧ y ≤ 2000000) (hd : 0 ≤ doy ∧ doy < ydays (leapB y)) (bd : 0 ≤ doy ∧ doy ≤ 365) (hl : leapB y = true) :
    Cl w 86 5 [.float (H n) tj] (Gives3 (iiy y doy) (iim true doy) (iid true doy)) := by
  k_with_none
  k_with "cr" => (k_here; (first | (with_reducible refine' Cl.use (c_isleapE w _ _ _ true rfl hl) ?kA ?k1 ?k2 ?k3 ?k4 ?k5 ?kK ?kd ?ku ?_) | (with_reducible refine' Cl.use (c_jdg w _ _ _ _ _ _ hy (by decide) (by decide)) ?kA ?k1 ?k2 ?k3 ?k4 ?k5 ?kK ?kd ?ku ?_)); (case kA => k_dflt (exact rfl)); (case k1 => k_asm); (case k2 => k_asm); (case k3 => k_asm); (case k4 => k_asm); (case k5 => k_asm); (case kK => first | exact rfl | assumption); (case kd => ktr_room); (case ku => ktr_units); intro t9 h9 tk9 F9 N9; (try dsimp only); (try k_fold); (try k_sweep))
  k_with "cr" => (k_here; (with_reducible refine' Cl.use (c_fjg w n y doy _ hy hd hn.out) ?kA ?k1 ?k2 ?k3 ?k4 ?k5 ?kK ?kd ?ku ?_); (case kA => k_dflt (exact rfl)); (case k1 => k_asm); (case k2 => k_asm); (case k3 => k_asm); (case k4 => k_asm); (case k5 => k_asm); (case kK => first | exact rfl | assumption); (case kd => ktr_room); (case ku => ktr_units); intro D9 t9 t8 t7 n9 h9 tk9 F9 N9; (try dsimp only); (try k_fold); (try k_sweep))
  dsimp only [Cl, MTop, Gives3]
  k_fill
  intro mean mg mb dp un gd cn cs a ccd cl outer A₀ base h₀ L m news s Q E B F X N T hk hdp hu hret
  refine wpAny_call ?_
  k_dflt cell_enter
  k_steps
  all_goals (refine' ret_3 (Q := Q) (s := s) hret ?e1 ?e2 ?e3 ?eF ?eN ?eM ?eS; (case eF => k_asm); (case eN => k_asm); (case eM => k_mem); (case eS => kcj_all); (case e1 => unfold iiy; split <;> omega); (case e2 => unfold iim; simp only [if_true]; (repeat' split) <;> omega); (case e3 => unfold iid; simp only [if_true]; (repeat' split) <;> omega))

set_option maxRecDepth 100000 in
set_option maxHeartbeats 8000000 in
theorem c_fji_F (w : World) (n y doy : Int) (tj : Tok) (hn : Eqn n (G y 1 1 + 2 * doy)) (h2 : Eqn (2 * (n / 2) + 1) n) (h3 : Eqn (n - G y 1 1) (2 * doy)) (bn : 0 ≤ n ∧ n < 2000000000) (bG : 0 ≤ G y 1 1 ∧ G y 1 1 < 2000000000) (hy : 1 ≤ y ∧ y ≤ 2000000) (hd : 0 ≤ doy ∧ doy < ydays (leapB y)) (bd : 0 ≤ doy ∧ doy ≤ 365) (hl : leapB y = false) :
    Cl w 86 5 [.float (H n) tj] (Gives3 (iiy y doy) (iim false doy) (iid false doy)) := by
  k_with_none
  k_with "cr" => (k_here; (first | (with_reducible refine' Cl.use (c_isleapE w _ _ _ false rfl hl) ?kA ?k1 ?k2 ?k3 ?k4 ?k5 ?kK ?kd ?ku ?_) | (with_reducible refine' Cl.use (c_jdg w _ _ _ _ _ _ hy (by decide) (by decide)) ?kA ?k1 ?k2 ?k3 ?k4 ?k5 ?kK ?kd ?ku ?_)); (case kA => k_dflt (exact rfl)); (case k1 => k_asm); (case k2 => k_asm); (case k3 => k_asm); (case k4 => k_asm); (case k5 => k_asm); (case kK => first | exact rfl | assumption); (case kd => ktr_room); (case ku => ktr_units); intro t9 h9 tk9 F9 N9; (try dsimp only); (try k_fold); (try k_sweep))
  k_with "cr" => (k_here; (with_reducible refine' Cl.use (c_fjg w n y doy _ hy hd hn.out) ?kA ?k1 ?k2 ?k3 ?k4 ?k5 ?kK ?kd ?ku ?_); (case kA => k_dflt (exact rfl)); (case k1 => k_asm); (case k2 => k_asm); (case k3 => k_asm); (case k4 => k_asm); (case k5 => k_asm); (case kK => first | exact rfl | assumption); (case kd => ktr_room); (case ku => ktr_units); intro D9 t9 t8 t7 n9 h9 tk9 F9 N9; (try dsimp only); (try k_fold); (try k_sweep))
  dsimp only [Cl, MTop, Gives3]
  k_fill
  intro mean mg mb dp un gd cn cs a ccd cl outer A₀ base h₀ L m news s Q E B F X N T hk hdp hu hret
  refine wpAny_call ?_
  k_dflt cell_enter
  k_steps
  all_goals (refine' ret_3 (Q := Q) (s := s) hret ?e1 ?e2 ?e3 ?eF ?eN ?eM ?eS; (case eF => k_asm); (case eN => k_asm); (case eM => k_mem); (case eS => kcj_all); (case e1 => unfold iiy; split <;> omega); (case e2 => unfold iim; simp only [Bool.false_eq_true, if_false]; (repeat' split) <;> omega); (case e3 => unfold iid; simp only [Bool.false_eq_true, if_false]; (repeat' split) <;> omega))

/-- from_jd (Indian) at the day doy of the Gregorian year y -/
theorem c_fji (w : World) (n y doy : Int) (tj : Tok) (hy : 1 ≤ y ∧ y ≤ 2000000) (hd : 0 ≤ doy ∧ doy < ydays (leapB y)) (hn : n = G y 1 1 + 2 * doy) :
    Cl w 86 5 [.float (H n) tj] (Gives3 (iiy y doy) (iim (leapB y) doy) (iid (leapB y) doy)) := by
  have hG := G11_b hy
  have hodd : G y 1 1 % 2 = 1 := by rw [G11]; omega
  have hdb : doy ≤ 365 := by unfold ydays at hd; split at hd <;> omega
  have h2 : 2 * (n / 2) + 1 = n := by omega
  cases hl : leapB y with
  | true => exact c_fji_T w n y doy tj (Eqn.mk hn) (Eqn.mk h2) (Eqn.mk (by omega)) (by omega) (by omega) hy hd ⟨hd.1, hdb⟩ hl
  | false => exact c_fji_F w n y doy tj (Eqn.mk hn) (Eqn.mk h2) (Eqn.mk (by omega)) (by omega) (by omega) hy hd ⟨hd.1, hdb⟩ hl
end Mine
namespace Mine

def lv (l : Bool) : Int := if l then 1 else 0
theorem yd_lv (l : Bool) : ydays l = 365 + lv l := by cases l <;> rfl
theorem lv_b (l : Bool) : lv l = 0 ∨ lv l = 1 := by cases l <;> simp [lv]
/-- the length of an Indian month -/
def SZ (l : Bool) (m : Int) : Int := if m = 1 then 30 + lv l else if m < 7 then 31 else 30
theorem SZ_b (l : Bool) (m : Int) : 30 ≤ SZ l m ∧ SZ l m ≤ 31 := by
  have := lv_b l
  unfold SZ
  (repeat' split) <;> omega
theorem ioff_eq (l : Bool) {m : Int} (hm : 1 ≤ m ∧ m ≤ 12) : ioff l m = if m = 1 then 0 else if m < 8 then 30 + lv l + 31 * (m - 2) else 185 + lv l + 30 * (m - 7) := by
  unfold ioff lv
  cases l <;> simp only [Bool.false_eq_true, if_false, if_true] <;> (repeat' split) <;> omega
theorem ioff_b (l : Bool) {m : Int} (hm : 1 ≤ m ∧ m ≤ 12) : 0 ≤ ioff l m ∧ ioff l m ≤ 335 + lv l := by
  have := lv_b l
  rw [ioff_eq l hm]
  (repeat' split) <;> omega
theorem ioff_SZ (l : Bool) {m : Int} (hm : 1 ≤ m ∧ m ≤ 12) : ioff l m + SZ l m ≤ 365 + lv l := by
  have := lv_b l
  rw [ioff_eq l hm]
  unfold SZ
  (repeat' split) <;> omega
theorem G_next (y : Int) : G (y + 1) 1 1 = G y 1 1 + 2 * ydays (leapB y) := by
  rw [G11, G11, yd_lv]
  have h := leap_iff y
  cases hl : leapB y with
  | true =>
    have := h.mp hl
    unfold lv
    simp only [if_true]
    omega
  | false =>
    rw [hl] at h
    have h' : ¬ (y % 4 = 0 ∧ (y % 100 ≠ 0 ∨ y % 400 = 0)) := fun x => by have := h.mpr x; cases this
    unfold lv
    simp only [Bool.false_eq_true, if_false]
    omega
theorem I0_eq (y : Int) : I0 y = G (y + 78) 1 1 + 2 * 80 := by
  unfold I0
  cases hl : leapB (y + 78) with
  | true => rw [if_pos rfl, G_st, hl]; have : st true 3 = 60 := by decide
            omega
  | false => rw [if_neg (by decide), G_st, hl]; have : st false 3 = 59 := by decide
             omega

/-- the day behind the Gregorian year's first at which an Indian date lies, counted from the year in which the Indian year begins -/
def tot (y m d : Int) : Int := 80 + ioff (leapB (y + 78)) m + d - 1
def py (y m d : Int) : Int := if tot y m d < ydays (leapB (y + 78)) then y + 78 else y + 79
def pd (y m d : Int) : Int := if tot y m d < ydays (leapB (y + 78)) then tot y m d else tot y m d - ydays (leapB (y + 78))
theorem IJ_tot (y m d : Int) : IJ y m d = G (y + 78) 1 1 + 2 * tot y m d := by
  unfold IJ tot
  rw [I0_eq]
  omega
theorem IJ_pos (y m d : Int) : IJ y m d = G (py y m d) 1 1 + 2 * pd y m d := by
  rw [IJ_tot]
  unfold py pd
  split
  · rfl
  · have := G_next (y + 78)
    rw [show y + 78 + 1 = y + 79 by omega] at this
    omega
theorem py_b {y m d : Int} (hy : 1 ≤ y ∧ y ≤ 1000001) : 1 ≤ py y m d ∧ py y m d ≤ 2000000 := by unfold py; split <;> omega
theorem pd_b {y m d : Int} (hm : 1 ≤ m ∧ m ≤ 12) (hd : 1 ≤ d ∧ d ≤ SZ (leapB (y + 78)) m) : 0 ≤ pd y m d ∧ pd y m d < ydays (leapB (py y m d)) := by
  have h1 := lv_b (leapB (y + 78))
  have h2 := lv_b (leapB (y + 79))
  have h3 := ioff_b (leapB (y + 78)) hm
  have h4 := ioff_eq (leapB (y + 78)) hm
  have h5 := SZ_b (leapB (y + 78)) m
  have ht : tot y m d = 80 + ioff (leapB (y + 78)) m + d - 1 := rfl
  have h6 := yd_lv (leapB (y + 78))
  have h7 := yd_lv (leapB (y + 79))
  unfold pd py
  split
  · omega
  · rw [h7]; omega

theorem inv_y {y m d : Int} (hm : 1 ≤ m ∧ m ≤ 12) (hd : 1 ≤ d ∧ d ≤ SZ (leapB (y + 78)) m) : iiy (py y m d) (pd y m d) = y := by
  have h1 := lv_b (leapB (y + 78))
  have h3 := ioff_b (leapB (y + 78)) hm
  have h5 := ioff_SZ (leapB (y + 78)) hm
  have h6 := yd_lv (leapB (y + 78))
  have ht : tot y m d = 80 + ioff (leapB (y + 78)) m + d - 1 := rfl
  unfold iiy pd py
  (repeat' split) <;> omega

theorem inv_md {y m d : Int} (hm : 1 ≤ m ∧ m ≤ 12) (hd : 1 ≤ d ∧ d ≤ SZ (leapB (y + 78)) m) :
    iim (leapB (py y m d)) (pd y m d) = m ∧ iid (leapB (py y m d)) (pd y m d) = d := by
  have h1 := lv_b (leapB (y + 78))
  have h4 := ioff_eq (leapB (y + 78)) hm
  have h6 := yd_lv (leapB (y + 78))
  have ht : tot y m d = 80 + ioff (leapB (y + 78)) m + d - 1 := rfl
  have hc : (if leapB (y + 78) then (31 : Int) else 30) = 30 + lv (leapB (y + 78)) := by cases leapB (y + 78) <;> rfl
  unfold SZ at hd
  unfold py pd
  split
  · unfold iim iid
    rw [hc]
    generalize leapB (y + 78) = l at *
    generalize tot y m d = t at *
    rw [h6] at *
    generalize lv l = v at *
    by_cases m1 : m = 1
    · rw [if_pos m1] at h4 hd
      constructor <;> rw [if_neg (by omega), if_pos (by omega)] <;> omega
    · rw [if_neg m1] at h4 hd
      by_cases m8 : m < 8
      · rw [if_pos m8] at h4
        by_cases m7 : m < 7
        · rw [if_pos m7] at hd
          constructor <;> rw [if_neg (by omega), if_neg (by omega), if_pos (by omega)] <;> omega
        · rw [if_neg m7] at hd
          constructor <;> rw [if_neg (by omega), if_neg (by omega), if_neg (by omega)] <;> omega
      · rw [if_neg m8] at h4
        rw [if_neg (by omega)] at hd
        constructor <;> rw [if_neg (by omega), if_neg (by omega), if_neg (by omega)] <;> omega
  · unfold iim iid
    generalize leapB (y + 78) = l at *
    generalize tot y m d = t at *
    rw [h6] at *
    generalize lv l = v at *
    have m8 : ¬ m < 8 := by
      intro h
      by_cases m1 : m = 1
      · rw [if_pos m1] at h4 hd; omega
      · rw [if_neg m1, if_pos h] at h4
        rw [if_neg m1] at hd
        split at hd <;> omega
    rw [if_neg (by omega), if_neg m8] at h4
    rw [if_neg (by omega), if_neg (by omega)] at hd
    constructor <;> rw [if_pos (by omega)] <;> omega

theorem py_lo {y m d : Int} (h : tot y m d < ydays (leapB (y + 78))) : py y m d = y + 78 ∧ pd y m d = tot y m d := by unfold py pd; rw [if_pos h, if_pos h]; exact ⟨rfl, rfl⟩
theorem py_hi {y m d : Int} (h : ¬ tot y m d < ydays (leapB (y + 78))) : py y m d = y + 79 ∧ pd y m d = tot y m d - ydays (leapB (y + 78)) := by unfold py pd; rw [if_neg h, if_neg h]; exact ⟨rfl, rfl⟩
/-- the Gregorian date of a month's first day -/
theorem first_pos {y m : Int} (hm : 1 ≤ m ∧ m ≤ 12) : py y m 1 = FY y m ∧ gm (leapB (py y m 1)) (pd y m 1) = FM m ∧ gd (leapB (py y m 1)) (pd y m 1) = FD y m := by
  have ht : tot y m 1 = 80 + ioff (leapB (y + 78)) m + 1 - 1 := rfl
  have hmm : (m = 1 ∨ m = 2 ∨ m = 3 ∨ m = 4 ∨ m = 5 ∨ m = 6 ∨ m = 7 ∨ m = 8 ∨ m = 9 ∨ m = 10) ∨ m = 11 ∨ m = 12 := by omega
  rcases hmm with hmm | hmm
  · cases hl : leapB (y + 78) <;> rw [hl] at ht <;> rcases hmm with h | h | h | h | h | h | h | h | h | h <;> subst h <;>
      (obtain ⟨p1, p2⟩ := py_lo (y := y) (d := 1) (by rw [hl, ht]; decide)
       rw [p1, p2, hl, ht]
       refine ⟨by unfold FY; rw [if_pos (by decide)], by decide, by unfold FD; rw [hl]; decide⟩)
  · cases hl : leapB (y + 78) <;> cases hl' : leapB (y + 79) <;> rw [hl] at ht <;> rcases hmm with h | h <;> subst h <;>
      (obtain ⟨p1, p2⟩ := py_hi (y := y) (d := 1) (by rw [hl, ht]; decide)
       rw [p1, p2, hl, hl', ht]
       refine ⟨by unfold FY; rw [if_neg (by decide)], by decide, by unfold FD; rw [hl]; decide⟩)
end Mine
namespace Mine

theorem FY_b {y m : Int} (hy : 1 ≤ y ∧ y ≤ 1000001) : 1 ≤ FY y m ∧ FY y m ≤ 2000000 := by unfold FY; split <;> omega
theorem FM_b {m : Int} (hm : 1 ≤ m ∧ m ≤ 12) : 1 ≤ FM m ∧ FM m ≤ 12 := by unfold FM; split <;> omega
theorem FD_b {y m : Int} (hm : 1 ≤ m ∧ m ≤ 12) : 1 ≤ FD y m ∧ FD y m ≤ 28 := by
  have hmm : m = 1 ∨ m = 2 ∨ m = 3 ∨ m = 4 ∨ m = 5 ∨ m = 6 ∨ m = 7 ∨ m = 8 ∨ m = 9 ∨ m = 10 ∨ m = 11 ∨ m = 12 := by omega
  unfold FD
  cases leapB (y + 78) <;> rcases hmm with h | h | h | h | h | h | h | h | h | h | h | h <;> subst h <;> decide
theorem JF_IJ {y m : Int} (hm : 1 ≤ m ∧ m ≤ 12) : G (FY y m) (FM m) (FD y m) = IJ y m 1 := by
  obtain ⟨e1, e2, e3⟩ := first_pos (y := y) hm
  rw [← e1, ← e2, ← e3, G_st, IJ_pos]
  unfold gd
  omega
theorem IJ_day (y m d : Int) : IJ y m d = IJ y m 1 + 2 * (d - 1) := by unfold IJ; omega
theorem IJ_next {y m : Int} (hm : 1 ≤ m ∧ m ≤ 11) : IJ y (m + 1) 1 = IJ y m 1 + 2 * SZ (leapB (y + 78)) m := by
  have h1 := ioff_eq (leapB (y + 78)) (m := m) ⟨hm.1, by omega⟩
  have h2 := ioff_eq (leapB (y + 78)) (m := m + 1) ⟨by omega, by omega⟩
  unfold IJ
  rw [h1, h2]
  unfold SZ
  (repeat' split) <;> omega
theorem IJ_year (y : Int) : IJ (y + 1) 1 1 = IJ y 12 1 + 2 * SZ (leapB (y + 78)) 12 := by
  have h := G_next (y + 78)
  have h1 := ioff_eq (leapB (y + 78)) (m := 12) (by decide)
  rw [if_neg (by decide), if_neg (by decide)] at h1
  have h2 : ∀ l, ioff l 1 = 0 := by intro l; cases l <;> rfl
  have h3 : ∀ l, SZ l 12 = 30 := by intro l; cases l <;> rfl
  have h6 := yd_lv (leapB (y + 78))
  unfold IJ
  rw [I0_eq, I0_eq, h1, h2, h3]
  rw [show y + 1 + 78 = y + 78 + 1 by omega]
  omega
theorem IJ_b {y m d : Int} (hy : 1 ≤ y ∧ y ≤ 1000001) (hm : 1 ≤ m ∧ m ≤ 12) (hd : 1 ≤ d ∧ d ≤ 31) : 0 ≤ IJ y m d ∧ IJ y m d < 2000000000 := by
  have h1 := G11_b (y := y + 78) (by omega)
  have h3 := ioff_b (leapB (y + 78)) hm
  have h4 := lv_b (leapB (y + 78))
  rw [IJ_tot]
  unfold tot
  omega

/-- to_jd (Gregorian) at a month's first day -/
theorem c_jdgF (w : World) (y m : Int) (ty tm td : Tok) (hy : 1 ≤ y ∧ y ≤ 1000001) (hm : 1 ≤ m ∧ m ≤ 12) : Cl w 64 3 [.int (FY y m) ty, .int (FM m) tm, .int (FD y m) td] (Gives1 fun t => .float (H (IJ y m 1)) t) := by
  rw [← JF_IJ hm]
  exact c_jdg w _ _ _ ty tm td (FY_b hy) (FM_b hm) (FD_b hm)
/-- from_jd (Gregorian) at a month's first day -/
theorem c_fjgF (w : World) (y m : Int) (tj : Tok) (hy : 1 ≤ y ∧ y ≤ 1000001) (hm : 1 ≤ m ∧ m ≤ 12) : Cl w 71 4 [.float (H (IJ y m 1)) tj] (Gives3 (FY y m) (FM m) (FD y m)) := by
  have hz := SZ_b (leapB (y + 78)) m
  have h := c_fjg w (IJ y m 1) (py y m 1) (pd y m 1) tj (py_b hy) (pd_b hm ⟨by decide, by omega⟩) (IJ_pos y m 1)
  obtain ⟨e1, e2, e3⟩ := first_pos (y := y) hm
  rw [e2, e3, e1] at h
  exact h
/-- from_jd (Indian) at any day of a month -/
theorem c_fjiF (w : World) (n y m d : Int) (tj : Tok) (hy : 1 ≤ y ∧ y ≤ 1000001) (hm : 1 ≤ m ∧ m ≤ 12) (hd : 1 ≤ d ∧ d ≤ SZ (leapB (y + 78)) m) (hn : n = IJ y m 1 + 2 * (d - 1)) : Cl w 86 5 [.float (H n) tj] (Gives3 y m d) := by
  have h := c_fji w n (py y m d) (pd y m d) tj (py_b hy) (pd_b hm hd) (by rw [hn, ← IJ_day]; exact IJ_pos y m d)
  rw [inv_y hm hd, (inv_md hm hd).1, (inv_md hm hd).2] at h
  exact h

set_option maxRecDepth 100000 in
set_option maxHeartbeats 8000000 in
theorem c_tog (w : World) (y mo : Int) (ty tm td : Tok) (hy : 1 ≤ y ∧ y ≤ 1000001) (hm : 1 ≤ mo ∧ mo ≤ 12) : Cl w 100 5 [.int y ty, .int mo tm, .int 1 td] (Gives3 (FY y mo) (FM mo) (FD y mo)) := by
  k_with_none
  k_with "cr" => (k_here; (with_reducible refine' Cl.use (c_jdi w y mo 1 _ _ _ hy hm (by decide)) ?kA ?k1 ?k2 ?k3 ?k4 ?k5 ?kK ?kd ?ku ?_); (case kA => k_dflt (exact rfl)); (case k1 => k_asm); (case k2 => k_asm); (case k3 => k_asm); (case k4 => k_asm); (case k5 => k_asm); (case kK => first | exact rfl | assumption); (case kd => ktr_room); (case ku => ktr_units); intro t9 h9 tk9 F9 N9; (try dsimp only); (try k_fold); (try k_sweep))
  k_with "cr" => (k_here; (with_reducible refine' Cl.use (c_fjgF w y mo _ hy hm) ?kA ?k1 ?k2 ?k3 ?k4 ?k5 ?kK ?kd ?ku ?_); (case kA => k_dflt (exact rfl)); (case k1 => k_asm); (case k2 => k_asm); (case k3 => k_asm); (case k4 => k_asm); (case k5 => k_asm); (case kK => first | exact rfl | assumption); (case kd => ktr_room); (case ku => ktr_units); intro D9 t9 t8 t7 n9 h9 tk9 F9 N9; (try dsimp only); (try k_fold); (try k_sweep))
  dsimp only [Cl, MTop, Gives3]
  k_fill
  intro mean mg mb dp un gd cn cs a ccd cl outer A₀ base h₀ L m news s Q E B F X N T hk hdp hu hret
  refine wpAny_call ?_
  k_dflt cell_enter
  k_steps
  all_goals (refine' ret_3 (Q := Q) (s := s) hret ?e1 ?e2 ?e3 ?eF ?eN ?eM ?eS; (case eF => k_asm); (case eN => k_asm); (case eM => k_mem); (case eS => kcj_all); (case e1 => rfl); (case e2 => rfl); (case e3 => rfl))

set_option maxRecDepth 100000 in
set_option maxHeartbeats 8000000 in
theorem c_frog (w : World) (y mo : Int) (ty tm td : Tok) (hy : 1 ≤ y ∧ y ≤ 1000001) (hm : 1 ≤ mo ∧ mo ≤ 12) (hz : 1 ≤ (1 : Int) ∧ 1 ≤ SZ (leapB (y + 78)) mo) : Cl w 93 6 [.int (FY y mo) ty, .int (FM mo) tm, .int (FD y mo) td] (Gives3 y mo 1) := by
  k_with_none
  k_with "cr" => (k_here; (with_reducible refine' Cl.use (c_jdgF w y mo _ _ _ hy hm) ?kA ?k1 ?k2 ?k3 ?k4 ?k5 ?kK ?kd ?ku ?_); (case kA => k_dflt (exact rfl)); (case k1 => k_asm); (case k2 => k_asm); (case k3 => k_asm); (case k4 => k_asm); (case k5 => k_asm); (case kK => first | exact rfl | assumption); (case kd => ktr_room); (case ku => ktr_units); intro t9 h9 tk9 F9 N9; (try dsimp only); (try k_fold); (try k_sweep))
  k_with "cr" => (k_here; (with_reducible refine' Cl.use (c_fjiF w (IJ y mo 1) y mo 1 _ hy hm hz (by omega)) ?kA ?k1 ?k2 ?k3 ?k4 ?k5 ?kK ?kd ?ku ?_); (case kA => k_dflt (exact rfl)); (case k1 => k_asm); (case k2 => k_asm); (case k3 => k_asm); (case k4 => k_asm); (case k5 => k_asm); (case kK => first | exact rfl | assumption); (case kd => ktr_room); (case ku => ktr_units); intro D9 t9 t8 t7 n9 h9 tk9 F9 N9; (try dsimp only); (try k_fold); (try k_sweep))
  dsimp only [Cl, MTop, Gives3]
  k_fill
  intro mean mg mb dp un gd cn cs a ccd cl outer A₀ base h₀ L m news s Q E B F X N T hk hdp hu hret
  refine wpAny_call ?_
  k_dflt cell_enter
  k_steps
  all_goals (refine' ret_3 (Q := Q) (s := s) hret ?e1 ?e2 ?e3 ?eF ?eN ?eM ?eS; (case eF => k_asm); (case eN => k_asm); (case eM => k_mem); (case eS => kcj_all); (case e1 => rfl); (case e2 => rfl); (case e3 => rfl))

set_option maxRecDepth 100000 in
set_option maxHeartbeats 8000000 in
theorem c_mlen (w : World) (y mo : Int) (ty tm : Tok) (hm : 2 ≤ mo ∧ mo ≤ 12) : Cl w 107 2 [.int y ty, .int mo tm] (Gives1 fun t => .int (SZ (leapB (y + 78)) mo) t) := by
  obtain ⟨hm1, hm2⟩ := hm
  k_with_none
  k_with "cr" => (k_here; first | (exfalso; omega) | ((with_reducible refine' Cl.use (c_isleap w _ _) ?kA ?k1 ?k2 ?k3 ?k4 ?k5 ?kK ?kd ?ku ?_); (case kA => k_dflt (exact rfl)); (case k1 => k_asm); (case k2 => k_asm); (case k3 => k_asm); (case k4 => k_asm); (case k5 => k_asm); (case kK => first | exact rfl | assumption); (case kd => ktr_room); (case ku => ktr_units); intro t9 h9 tk9 F9 N9; (try dsimp only); (try k_fold); (try k_sweep)))
  dsimp only [Cl, MTop, Gives1]
  k_fill
  intro mean mg mb dp un gd cn cs a ccd cl outer A₀ base h₀ L m news s Q E B F X N T hk hdp hu hret
  refine wpAny_call ?_
  k_dflt cell_enter
  k_steps
  all_goals (refine' cb_retI (Q := Q) (s := s) hret ?e1 ?e2 ?e3; (case e2 => k_asm); (case e3 => k_asm); (case e1 => unfold SZ; rw [if_neg (by omega)]; split <;> first | rfl | (exfalso; simp_all; omega)))
end Mine
namespace Mine
open PySem.SeqAt
section
variable {prog : Program} {w : World} {A : Around} {E : Value → Shared → Prop} {s : Shared} {Q : Value → Shared → Prop} {t u : Tok} {x y : UInt64} {a b i j z : Int}
theorem e_add_ff (hx : x = H a) (hy : y = H b) (he : Eqn (a + b) z) (hb : (-1000000000000 < a ∧ a < 1000000000000) ∧ (-1000000000000 < b ∧ b < 1000000000000)) (h : Q (.float (H z) s.toks) { s with toks := s.toks + 1 }) :
    wpAny (model prog w) A (binaryOp .Add (.float x t) (.float y u)) Q E s := r_add_ff hx hy (up51 (na hb.1)) (up51 (na hb.2)) (by rw [he.out]; exact h)
theorem e_ne_if (hx : x = H a) (hb : -1000000000000 < a ∧ a < 1000000000000) (h : Q (.bool (decide (a ≠ 2 * i))) s) : wpAny (model prog w) A (compareOp .NotEq (.int i u) (.float x t)) Q E s := by
  subst hx
  refine ne_if ?_
  rw [cmpInt_H (Nat.lt_of_lt_of_le (na hb) (by decide)), cmp_ne_dec]; exact h
theorem eqAt_ii {a b : Int} {t u : Tok} (h : a = b) : EqAt A s (.int a t) (.int b u) true := by
  subst h
  have := EqAt.int_int (A := A) (s := s) a t a u
  rw [beq_self_eq_true] at this
  exact this
theorem eqAt_if' {d z : Int} {t u : Tok} (hz : -1000000000000 < z ∧ z < 1000000000000) : EqAt A s (.int d t) (.float (H z) u) (decide (z = 2 * d)) := fun prog w E Q h => by
  unfold eqBool
  refine wpAny_holding ?_
  refine wpAny_ite_split (fun hab => absurd (eq_of_beq hab) nofun) (fun _ => ?_)
  refine wpAny_bind (show wpAny _ _ (richCompare .Eq _ _) _ _ _ from eq_if ?_)
  rw [cmpInt_H (Nat.lt_of_lt_of_le (na hz) (by decide)), cmp_eq_dec]
  exact wpAny_truthy_bool h
theorem eqAt_if {d z : Int} {t u : Tok} (hz : -1000000000000 < z ∧ z < 1000000000000) (h : z = 2 * d) : EqAt A s (.int d t) (.float (H z) u) true := by
  have := eqAt_if' (A := A) (s := s) (d := d) (t := t) (u := u) hz
  rw [decide_eq_true h] at this
  exact this
/-- two tuples of three that are the same -/
theorem r_ne_3 {h₀ : Heap} {L l b : Addr} {news : List (Addr × Obj)} {a1 a2 a3 b1 b2 b3 : Value} {n n2 : Nat}
    (N : News h₀ L s.heap news) (h1 : (l, ({ cls := .type "tuple", data := .seq #[a1, a2, a3] n } : Obj)) ∈ news) (h2 : (b, ({ cls := .type "tuple", data := .seq #[b1, b2, b3] n2 } : Obj)) ∈ news)
    (e1 : EqAt A.in1 s a1 b1 true) (e2 : EqAt A.in1 s a2 b2 true) (e3 : EqAt A.in1 s a3 b3 true) (hu : A.units < cLine) (h : Q (.bool false) s) :
    wpAny (model prog w) A (compareOp .NotEq (.ref l) (.ref b)) Q E s := by
  have t1 : s.heap.IsTuple l #[a1, a2, a3] := ⟨_, (N _ h1).1, rfl, n, rfl⟩
  have t2 : s.heap.IsTuple b #[b1, b2, b3] := ⟨_, (N _ h2).1, rfl, n2, rfl⟩
  exact RcNeAt.tuples (e := fun _ => true) t1 t2 hu (fun j hj1 hj2 => match j, hj1, hj2 with
    | 0, _, _ => e1
    | 1, _, _ => e2
    | 2, _, _ => e3
    | k + 3, hj1, _ => absurd hj1 (by simp)) prog w E Q h
def isHalf (z : Int) : Value → Bool
  | .int k _ => decide (z = 2 * k)
  | _ => false
/-- a float in neither place of a pair of ints -/
theorem r_notin_2 {h₀ : Heap} {L l : Addr} {news : List (Addr × Obj)} {k1 k2 : Int} {t1 t2 : Tok} {n : Nat} (hx : x = H z) (hz : -1000000000000 < z ∧ z < 1000000000000)
    (N : News h₀ L s.heap news) (h1 : (l, ({ cls := .type "tuple", data := .seq #[.int k1 t1, .int k2 t2] n } : Obj)) ∈ news) (hk : z = 2 * k1 ∨ z = 2 * k2) (h : Q (.bool false) s) :
    wpAny (model prog w) A (compareOp .NotIn (.float x t) (.ref l)) Q E s := by
  subst hx
  have t1' : s.heap.IsTuple l #[.int k1 t1, .int k2 t2] := ⟨_, (N _ h1).1, rfl, n, rfl⟩
  refine notIn_tupleAt (isHalf z) t1' (fun y hy => ?_) ?_
  · have hy' : y = .int k1 t1 ∨ y = .int k2 t2 := by simpa using hy
    rcases hy' with rfl | rfl
    · exact eqAt_if' hz
    · exact eqAt_if' hz
  · have e : (#[Value.int k1 t1, Value.int k2 t2].any (isHalf z)) = true := by
      simp only [isHalf, List.size_toArray, List.length_cons, List.length_nil, List.any_toArray', List.any_cons, List.any_nil, Bool.or_false, Bool.or_eq_true, decide_eq_true_eq]
      exact hk
    rw [e]
    exact h
end

/-- what is known of a month -/
structure Facts (y m : Int) : Prop where
  ij : 0 ≤ IJ y m 1 ∧ IJ y m 1 < 2000000000
  z0 : 30 ≤ SZ (leapB (y + 78)) m ∧ SZ (leapB (y + 78)) m ≤ 31
  z1 : 1 < m → m < 7 → SZ (leapB (y + 78)) m = 31
  z2 : 7 ≤ m → SZ (leapB (y + 78)) m = 30
theorem facts_of {y m : Int} (hy : 1 ≤ y ∧ y ≤ 1000001) (hm : 1 ≤ m ∧ m ≤ 12) : Facts y m :=
  ⟨IJ_b hy hm (by decide), SZ_b _ _, fun h1 h2 => by unfold SZ; rw [if_neg (by omega), if_pos h2], fun h => by unfold SZ; rw [if_neg (by omega), if_neg (by omega)]⟩
theorem sz_next {y m : Int} (hm : 1 ≤ m ∧ m ≤ 11) : Eqn (IJ y (m + 1) 1 - IJ y m 1) (2 * SZ (leapB (y + 78)) m) := Eqn.mk (by rw [IJ_next hm]; omega)
theorem sz_year {y m : Int} (hm : m = 12) : Eqn (IJ (y + 1) 1 1 - IJ y m 1) (2 * SZ (leapB (y + 78)) m) := Eqn.mk (by subst hm; rw [IJ_year]; omega)

abbrev Gives3F (P : Prop) (x y z : Int) (news : List (Addr × Obj)) (h₀ : Heap) (L : Addr) (m : Str → Option Value) (s : Shared) (Q : Value → Shared → Prop) : Prop :=
  P → Gives3 x y z news h₀ L m s Q
theorem c_firstF (w : World) (y mo : Int) (ty tm : Tok) (hy : 1 ≤ y ∧ y ≤ 1000001) (hm : 1 ≤ mo ∧ mo ≤ 12) : Cl w 121 2 [.int y ty, .int mo tm] (Gives3F (Facts y mo) (FY y mo) (FM mo) (FD y mo)) := by
  dsimp only [Cl, MTop, Gives3F, Gives3]
  intro mean mg mb dp un gd cn cs a ccd cl outer A₀ base h₀ L m news s Q E B F X N T hk hdp hu hret
  exact c_first w y mo ty tm hy hm _ _ _ _ _ _ _ _ _ _ _ _ _ _ _ _ _ _ _ _ _ B F X N T hk hdp hu (hret (facts_of hy hm))
theorem c_jdiD (w : World) (y mo d : Int) (ty tm td : Tok) (hy : 1 ≤ y ∧ y ≤ 1000001) (hm : 1 ≤ mo ∧ mo ≤ 12) (hd1 : 1 ≤ d ∧ d ≤ 31) :
    Cl w 79 4 [.int y ty, .int mo tm, .int d td] (Gives1 fun t => .float (H (IJ y mo 1 + 2 * (d - 1))) t) := by
  rw [← IJ_day]
  exact c_jdi w y mo d ty tm td hy hm hd1
end Mine
namespace Mine
theorem c_fji1 (w : World) (y m : Int) (tj : Tok) (hy : 1 ≤ y ∧ y ≤ 1000001) (hm : 1 ≤ m ∧ m ≤ 12) : Cl w 86 5 [.float (H (IJ y m 1)) tj] (Gives3 y m 1) :=
  have hz := SZ_b (leapB (y + 78)) m
  c_fjiF w _ y m 1 tj hy hm ⟨by decide, by omega⟩ (by omega)
theorem c_fjiZ (w : World) (y m : Int) (tj : Tok) (hy : 1 ≤ y ∧ y ≤ 1000001) (hm : 1 ≤ m ∧ m ≤ 12) : Cl w 86 5 [.float (H (IJ y m 1 + 2 * SZ (leapB (y + 78)) m - 2 * 1)) tj] (Gives3 y m (SZ (leapB (y + 78)) m)) :=
  have hz := SZ_b (leapB (y + 78)) m
  c_fjiF w _ y m _ tj hy hm ⟨by omega, by omega⟩ (by omega)
theorem c_fjiD (w : World) (y m d : Int) (tj : Tok) (hy : 1 ≤ y ∧ y ≤ 1000001) (hm : 1 ≤ m ∧ m ≤ 12) (hd : 1 ≤ d ∧ d ≤ 30) : Cl w 86 5 [.float (H (IJ y m 1 + 2 * d - 2 * 1)) tj] (Gives3 y m d) :=
  have hz := SZ_b (leapB (y + 78)) m
  c_fjiF w _ y m d tj hy hm ⟨by omega, by omega⟩ (by omega)
theorem e_mod_gen {prog : Program} {w : World} {A : Around} {E : Value → Shared → Prop} {s : Shared} {Q : Value → Shared → Prop} {t u : Tok} {a i c : Int} (hi : i = c) (hc : 0 < c) (h : ∀ z t', 0 ≤ z → z < c → Q (.int z t') { s with toks := s.toks + 1 }) :
    wpAny (model prog w) A (binaryOp .Mod (.int a t) (.int i u)) Q E s := by
  subst hi
  refine mod_int (by omega) ?_
  rw [Int.fmod_eq_emod_of_nonneg _ (by omega)]
  exact h _ _ (Int.emod_nonneg _ (by omega)) (Int.emod_lt_of_pos _ hc)
end Mine
open Mine
local macro_rules | `(tactic| walk_at "binaryOp Add float float") => `(tactic| (k_here; (with_reducible refine' e_add_ff ?hx ?hy ?he ?hb ?_); (case hx => with_reducible exact rfl); (case hy => with_reducible exact rfl); (case he => exact Eqn.rfl); (case hb => omega); (try dsimp only)))
local macro_rules | `(tactic| walk_at "compareOp NotEq int float") => `(tactic| (k_here; (with_reducible refine' e_ne_if ?hx ?hb ?_); (case hx => with_reducible exact rfl); (case hb => omega); (try dsimp only)))
local macro_rules | `(tactic| walk_at "compareOp NotEq ref ref") => `(tactic| (k_here; k_dflt (refine' r_ne_3 ?N ?h1 ?h2 ?e1 ?e2 ?e3 ?hu ?_; (case N => k_asm); (case h1 => k_mem); (case h2 => k_mem); (case e1 => exact eqAt_ii (by omega)); (case e2 => exact eqAt_ii (by omega)); (case e3 => first | exact eqAt_ii (by omega) | exact eqAt_if (by omega) (by omega)); (case hu => k_units))))
local macro_rules | `(tactic| walk_at "compareOp NotIn float ref") => `(tactic| (k_here; k_dflt (refine' r_notin_2 ?hx ?hz ?N ?h1 ?hk ?_; (case hx => with_reducible exact rfl); (case hz => omega); (case N => k_asm); (case h1 => k_mem); (case hk => omega))))
local macro_rules | `(tactic| walk_at "binaryOp Mod int int") => `(tactic| (k_here; (first | ((with_reducible refine' e_mod_gen (c := 1000000) ?hi ?hc ?_); (case hi => decide); (case hc => decide)) | ((with_reducible refine' e_mod_gen (c := 12) ?hi ?hc ?_); (case hi => decide); (case hc => decide)) | ((with_reducible refine' e_mod_gen (c := 30) ?hi ?hc ?_); (case hi => decide); (case hc => decide))); intro z9 t9 l9 u9))
local macro_rules | `(tactic| walk_at "pyIter ref") => `(tactic| k_extra "pyIter ref")

set_option maxRecDepth 100000 in
set_option maxHeartbeats 8000000 in
theorem PySem.Challenge.cw_ba5007_01_holds : PySem.Challenge.rw_ba5007_01.Holds := by
  k_with_none
  k_with "cr" => (k_here; (with_reducible refine' Mine.Cl.use (Mine.c_firstF _ _ _ _ _ ?kp ?kq) ?kA ?k1 ?k2 ?k3 ?k4 ?k5 ?kK ?kd ?ku ?_); (case kp => constructor <;> omega); (case kq => constructor <;> omega); (case kA => k_dflt (exact rfl)); (case k1 => k_dflt k_asm); (case k2 => k_dflt k_asm); (case k3 => k_dflt k_asm); (case k4 => k_dflt k_asm); (case k5 => k_dflt k_asm); (case kK => k_dflt (first | exact rfl | assumption)); (case kd => ktr_room); (case ku => ktr_units); intro hF9; obtain ⟨f1, f2, f3, f4⟩ := hF9; intro D9 t9 t8 t7 n9 h9 tk9 F9 N9; (try dsimp only); (try k_fold); (try k_sweep))
  k_with "cr" => (k_here; (with_reducible refine' Mine.Cl.use (Mine.c_jdgF _ _ _ _ _ _ ?kp ?kq) ?kA ?k1 ?k2 ?k3 ?k4 ?k5 ?kK ?kd ?ku ?_); (case kp => constructor <;> omega); (case kq => constructor <;> omega); (case kA => k_dflt (exact rfl)); (case k1 => k_dflt k_asm); (case k2 => k_dflt k_asm); (case k3 => k_dflt k_asm); (case k4 => k_dflt k_asm); (case k5 => k_dflt k_asm); (case kK => k_dflt (first | exact rfl | assumption)); (case kd => ktr_room); (case ku => ktr_units); intro t9 h9 tk9 F9 N9; (try dsimp only); (try k_fold); (try k_sweep))
  k_with "cr" => (k_here; (with_reducible refine' Mine.Cl.use (Mine.c_jdiD _ _ _ _ _ _ _ ?kp ?kq ?kr) ?kA ?k1 ?k2 ?k3 ?k4 ?k5 ?kK ?kd ?ku ?_); (case kp => constructor <;> omega); (case kq => constructor <;> omega); (case kr => constructor <;> omega); (case kA => k_dflt (exact rfl)); (case k1 => k_dflt k_asm); (case k2 => k_dflt k_asm); (case k3 => k_dflt k_asm); (case k4 => k_dflt k_asm); (case k5 => k_dflt k_asm); (case kK => k_dflt (first | exact rfl | assumption)); (case kd => ktr_room); (case ku => ktr_units); intro t9 h9 tk9 F9 N9; (try dsimp only); (try k_fold); (try k_sweep))
  k_with "cr" => (k_here; (with_reducible refine' Mine.Cl.use (Mine.c_tog _ _ _ _ _ _ ?kp ?kq) ?kA ?k1 ?k2 ?k3 ?k4 ?k5 ?kK ?kd ?ku ?_); (case kp => constructor <;> omega); (case kq => constructor <;> omega); (case kA => k_dflt (exact rfl)); (case k1 => k_dflt k_asm); (case k2 => k_dflt k_asm); (case k3 => k_dflt k_asm); (case k4 => k_dflt k_asm); (case k5 => k_dflt k_asm); (case kK => k_dflt (first | exact rfl | assumption)); (case kd => ktr_room); (case ku => ktr_units); intro D9 t9 t8 t7 n9 h9 tk9 F9 N9; (try dsimp only); (try k_fold); (try k_sweep))
  k_with "cr" => (k_here; (with_reducible refine' Mine.Cl.use (Mine.c_frog _ _ _ _ _ _ ?kp ?kq ?kr) ?kA ?k1 ?k2 ?k3 ?k4 ?k5 ?kK ?kd ?ku ?_); (case kp => constructor <;> omega); (case kq => constructor <;> omega); (case kr => constructor <;> omega); (case kA => k_dflt (exact rfl)); (case k1 => k_dflt k_asm); (case k2 => k_dflt k_asm); (case k3 => k_dflt k_asm); (case k4 => k_dflt k_asm); (case k5 => k_dflt k_asm); (case kK => k_dflt (first | exact rfl | assumption)); (case kd => ktr_room); (case ku => ktr_units); intro D9 t9 t8 t7 n9 h9 tk9 F9 N9; (try dsimp only); (try k_fold); (try k_sweep))
  k_with "cr" => (k_here; (with_reducible refine' Mine.Cl.use (Mine.c_mlen _ _ _ _ _ ?kp) ?kA ?k1 ?k2 ?k3 ?k4 ?k5 ?kK ?kd ?ku ?_); (case kp => constructor <;> omega); (case kA => k_dflt (exact rfl)); (case k1 => k_dflt k_asm); (case k2 => k_dflt k_asm); (case k3 => k_dflt k_asm); (case k4 => k_dflt k_asm); (case k5 => k_dflt k_asm); (case kK => k_dflt (first | exact rfl | assumption)); (case kd => ktr_room); (case ku => ktr_units); intro t9 h9 tk9 F9 N9; (try dsimp only); (try k_fold); (try k_sweep))
  k_with "cr" => (k_here; (with_reducible refine' Mine.Cl.use (Mine.c_fjiD _ _ _ _ _ ?kp ?kq ?kr) ?kA ?k1 ?k2 ?k3 ?k4 ?k5 ?kK ?kd ?ku ?_); (case kp => constructor <;> omega); (case kq => constructor <;> omega); (case kr => constructor <;> omega); (case kA => k_dflt (exact rfl)); (case k1 => k_dflt k_asm); (case k2 => k_dflt k_asm); (case k3 => k_dflt k_asm); (case k4 => k_dflt k_asm); (case k5 => k_dflt k_asm); (case kK => k_dflt (first | exact rfl | assumption)); (case kd => ktr_room); (case ku => ktr_units); intro D9 t9 t8 t7 n9 h9 tk9 F9 N9; (try dsimp only); (try k_fold); (try k_sweep))
  k_with "cr" => (k_here; (with_reducible refine' Mine.Cl.use (Mine.c_fjiZ _ _ _ _ ?kp ?kq) ?kA ?k1 ?k2 ?k3 ?k4 ?k5 ?kK ?kd ?ku ?_); (case kp => constructor <;> omega); (case kq => constructor <;> omega); (case kA => k_dflt (exact rfl)); (case k1 => k_dflt k_asm); (case k2 => k_dflt k_asm); (case k3 => k_dflt k_asm); (case k4 => k_dflt k_asm); (case k5 => k_dflt k_asm); (case kK => k_dflt (first | exact rfl | assumption)); (case kd => ktr_room); (case ku => ktr_units); intro D9 t9 t8 t7 n9 h9 tk9 F9 N9; (try dsimp only); (try k_fold); (try k_sweep))
  k_with "cr" => (k_here; (with_reducible refine' Mine.Cl.use (Mine.c_fji1 _ _ _ _ ?kp ?kq) ?kA ?k1 ?k2 ?k3 ?k4 ?k5 ?kK ?kd ?ku ?_); (case kp => constructor <;> omega); (case kq => constructor <;> omega); (case kA => k_dflt (exact rfl)); (case k1 => k_dflt k_asm); (case k2 => k_dflt k_asm); (case k3 => k_dflt k_asm); (case k4 => k_dflt k_asm); (case k5 => k_dflt k_asm); (case kK => k_dflt (first | exact rfl | assumption)); (case kd => ktr_room); (case ku => ktr_units); intro D9 t9 t8 t7 n9 h9 tk9 F9 N9; (try dsimp only); (try k_fold); (try k_sweep))
  k_with "he" => first | exact Mine.sz_next (by constructor <;> omega) | exact Mine.sz_year (by omega)
  k_with "pyIter ref" => k_search (fun _ => True)
  refine Mine.hd ?_
  k_go
