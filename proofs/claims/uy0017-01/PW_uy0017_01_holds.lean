import PyProof.Rows.All
import Wide.All
import OpenK.AllK
import Wide.FinOn
import Lean
import PySem.Challenge.RW_uy0017_01
set_option Elab.async false
set_option linter.unusedVariables false
set_option linter.unusedSimpArgs false
set_option maxRecDepth 100000
section
open PySem PySem.Float64
namespace Mine
noncomputable def F (z : Int) : UInt64 := ofFrac (decide (z < 0)) z.natAbs 1024
noncomputable def small (z : Int) : Bool := Nat.blt z.natAbs (2 ^ 40)
theorem small_lt {z : Int} (h : small z = true) : z.natAbs < 2 ^ 40 := Nat.blt_eq.mp h
theorem exact_t {n : Nat} (h : n < 2 ^ 50) : ∃ t, t < infMag ∧ V t = n * 2 ^ 1064 := by
 by_cases h0 : n = 0
 ·subst h0
  exact ⟨0, by decide, by rw [V_zero, Nat.zero_mul]⟩
 ·have hl : n.log2 < 50 := (Nat.log2_lt h0).mpr h
  have h1 : 2 ^ n.log2 ≤ n := Nat.log2_self_le h0
  have h2 : n < 2 ^ (n.log2 + 1) := Nat.lt_log2_self
  generalize n.log2 = l at *
  have e1 : 2 ^ 52 = 2 ^ l * 2 ^ (52 - l) := by rw [← Nat.pow_add]; congr 1; (first | lia | omega)
  have e2 : 2 ^ 53 = 2 ^ (l + 1) * 2 ^ (52 - l) := by rw [← Nat.pow_add]; congr 1; (first | lia | omega)
  have q1 : 2 ^ 52 ≤ n * 2 ^ (52 - l) := by rw [e1]; exact Nat.mul_le_mul_right _ h1
  have q2 : n * 2 ^ (52 - l) ≤ 2 ^ 53 := by rw [e2]; exact Nat.mul_le_mul_right _ (Nat.le_of_lt h2)
  refine ⟨(1012 + l) * 2 ^ 52 + n * 2 ^ (52 - l), ?_, ?_⟩
  ·have : infMag = 2047 * 2 ^ 52 := rfl
   (first | lia | omega)
  ·rw [V_at q2 (.inl q1), Nat.mul_assoc, ← Nat.pow_add]
   congr 2; (first | lia | omega)
theorem V_inj {a b : Nat} (h : V a = V b) : a = b := by
 rcases Nat.lt_trichotomy a b with q | q | q
 ·have := V_lt q; (first | lia | omega)
 ·exact q
 ·have := V_lt q; (first | lia | omega)
theorem right_exact {r : UInt64} {neg : Bool} {W D t : Nat} (R : Right r neg W D) (hD : 0 < D) (ht : V t < 2 ^ 1200) (hW : W = D * V t) : r = pack neg t := by
 obtain ⟨t1, rfl, le, iff, near⟩ := R
 have hbig : (2 : Nat) ^ 1201 < (2 ^ 54 - 1) * 2 ^ 2045 := by
  have : (2 : Nat) ^ 1201 < 2 ^ 2045 := Nat.pow_lt_pow_right (by decide) (by decide)
  exact Nat.lt_of_lt_of_le this (Nat.le_mul_of_pos_left _ (by decide))
 have hne : t1 ≠ infMag := fun q => by
  have h1 := iff.mp q
  rw [hW, show 2 * (D * V t) = D * (2 * V t) by ac_rfl] at h1
  have h2 := Nat.le_of_mul_le_mul_left h1 hD
  have : 2 * V t < 2 ^ 1201 := by
   have e : (2 : Nat) ^ 1201 = 2 * 2 ^ 1200 := by rw [← Nat.pow_succ']
   (first | lia | omega)
  (first | lia | omega)
 have h3 := (near (Nat.lt_of_le_of_ne le hne) t).1
 have h0 : PySem.Float64.dist W (D * V t) = 0 := by unfold PySem.Float64.dist; (first | lia | omega)
 rw [h0] at h3
 have h4 : W = D * V t1 := by unfold PySem.Float64.dist at h3; (first | lia | omega)
 rw [hW] at h4
 have := V_inj (Nat.eq_of_mul_eq_mul_left hD h4)
 rw [this]
theorem lt1200 {n : Nat} (h : n < 2 ^ 50) : n * 2 ^ 1064 < 2 ^ 1200 := by
 have : n * 2 ^ 1064 < 2 ^ 50 * 2 ^ 1064 := Nat.mul_lt_mul_of_pos_right h (Nat.two_pow_pos _)
 rw [← Nat.pow_add] at this
 exact Nat.lt_trans this (Nat.pow_lt_pow_right (by decide) (by decide))
theorem p74 : (2 : Nat) ^ 1074 = 1024 * 2 ^ 1064 := by rw [show (1024 : Nat) = 2 ^ 10 from rfl, ← Nat.pow_add]
theorem F_right (z : Int) : Right (F z) (decide (z < 0)) (z.natAbs * 2 ^ 1064) 1 :=
 ofFrac_right (by decide) (by rw [p74, Nat.mul_one]; ac_rfl) (by decide)
theorem F_pack {z : Int} (h : z.natAbs < 2 ^ 50) : ∃ t, t < infMag ∧ V t = z.natAbs * 2 ^ 1064 ∧ F z = pack (decide (z < 0)) t := by
 obtain ⟨t, h1, h2⟩ := exact_t h
 exact ⟨t, h1, h2, right_exact (F_right z) (by decide) (by rw [h2]; exact lt1200 h) (by rw [h2, Nat.one_mul])⟩
theorem F_of {r : UInt64} {c : Int} {W D : Nat} (R : Right r (decide (c < 0)) W D) (hD : 0 < D) (h : c.natAbs < 2 ^ 50) (hW : W = D * (c.natAbs * 2 ^ 1064)) : r = F c := by
 obtain ⟨t, h1, h2, e⟩ := F_pack h
 rw [e]
 exact right_exact R hD (by rw [h2]; exact lt1200 h) (by rw [h2]; exact hW)
theorem sgnK (z : Int) (K : Nat) : sgn (decide (z < 0)) (z.natAbs * K) = z * (K : Int) := by
 by_cases q : z < 0
 ·rw [decide_eq_true q]
  show -((z.natAbs * K : Nat) : Int) = _
  rw [Int.natCast_mul, ← Int.neg_mul]
  congr 1; (first | lia | omega)
 ·rw [decide_eq_false q]
  show ((z.natAbs * K : Nat) : Int) = _
  rw [Int.natCast_mul]
  congr 1; (first | lia | omega)
theorem F_dec {z : Int} (h : z.natAbs < 2 ^ 50) : ∃ m e, decode (F z) = .fin (decide (z < 0)) m e ∧ m * 2 ^ (e + 1074).toNat = z.natAbs * 2 ^ 1064 ∧ val (F z) = z * ((2 ^ 1064 : Nat) : Int) := by
 obtain ⟨t, h1, h2, e⟩ := F_pack h
 obtain ⟨m, e', hd, hv⟩ := decode_pack (decide (z < 0)) h1
 rw [e]
 refine ⟨m, e', hd, hv.trans h2, ?_⟩
 rw [val_pack _ h1, h2]
 exact sgnK z _
theorem K_pos : (0 : Int) < ((2 ^ 1064 : Nat) : Int) := Int.ofNat_lt.mpr (Nat.two_pow_pos _)
theorem natAbs_K (z : Int) : (z * ((2 ^ 1064 : Nat) : Int)).natAbs = z.natAbs * 2 ^ 1064 := by rw [Int.natAbs_mul, Int.natAbs_natCast]
theorem sign_K (z : Int) : decide (z * ((2 ^ 1064 : Nat) : Int) < 0) = decide (z < 0) := by
 have hK := K_pos
 generalize ((2 ^ 1064 : Nat) : Int) = K at *
 by_cases q : z < 0
 ·rw [decide_eq_true q, decide_eq_true (Int.mul_neg_of_neg_of_pos q hK)]
 ·have := Int.mul_nonneg (Int.not_lt.mp q) (Int.le_of_lt hK)
  rw [decide_eq_false q, decide_eq_false (by (first | lia | omega))]
theorem F_zero : F 0 = zero false := by decide +kernel
theorem F_add {a b : Int} (ha : a.natAbs < 2 ^ 40) (hb : b.natAbs < 2 ^ 40) : add (F a) (F b) = F (a + b) := by
 obtain ⟨m, e, da, _, va⟩ := F_dec (z := a) (Nat.lt_trans ha (by decide))
 obtain ⟨k, f, db, _, vb⟩ := F_dec (z := b) (Nat.lt_trans hb (by decide))
 have hs : val (F a) + val (F b) = (a + b) * ((2 ^ 1064 : Nat) : Int) := by rw [va, vb, Int.add_mul]
 obtain ⟨r1, r2⟩ := add_right da db
 rw [hs] at r1 r2
 by_cases q : a + b = 0
 ·rw [r1 (by rw [q, Int.zero_mul]), q, F_zero]
  have : (decide (a < 0) && decide (b < 0)) = false := by
   by_cases h1 : a < 0
   ·rw [decide_eq_true h1, decide_eq_false (by (first | lia | omega))]; rfl
   ·rw [decide_eq_false h1]; rfl
  rw [this]
 ·have h := r2 (Int.mul_ne_zero q (Int.ne_of_gt K_pos))
  rw [sign_K, natAbs_K] at h
  exact F_of h (by decide) (Nat.lt_of_le_of_lt (Int.natAbs_add_le a b) (Nat.lt_of_lt_of_le (Nat.add_lt_add ha hb) (by decide))) (by rw [Nat.one_mul])
theorem F_sub {a b : Int} (ha : a.natAbs < 2 ^ 40) (hb : b.natAbs < 2 ^ 40) (hz : ¬ (a < 0)) : sub (F a) (F b) = F (a - b) := by
 obtain ⟨m, e, da, _, va⟩ := F_dec (z := a) (Nat.lt_trans ha (by decide))
 obtain ⟨k, f, db, _, vb⟩ := F_dec (z := b) (Nat.lt_trans hb (by decide))
 have hs : val (F a) - val (F b) = (a - b) * ((2 ^ 1064 : Nat) : Int) := by rw [va, vb, Int.sub_mul]
 obtain ⟨r1, r2⟩ := sub_right da db
 rw [hs] at r1 r2
 by_cases q : a - b = 0
 ·rw [r1 (by rw [q, Int.zero_mul]), q, F_zero, decide_eq_false hz]; rfl
 ·have h := r2 (Int.mul_ne_zero q (Int.ne_of_gt K_pos))
  rw [sign_K, natAbs_K] at h
  exact F_of h (by decide) (Nat.lt_of_le_of_lt (Int.natAbs_sub_le a b) (Nat.lt_of_lt_of_le (Nat.add_lt_add ha hb) (by decide))) (by rw [Nat.one_mul])
theorem F_mul {a b c : Int} (ha : a.natAbs < 2 ^ 40) (hb : b.natAbs < 2 ^ 40) (h1 : 0 ≤ a) (h2 : 0 ≤ b) (hc : a * b = 1024 * c) (hl : c.natAbs < 2 ^ 40) : mul (F a) (F b) = F c := by
 obtain ⟨m, e, da, _, va⟩ := F_dec (z := a) (Nat.lt_trans ha (by decide))
 obtain ⟨k, f, db, _, vb⟩ := F_dec (z := b) (Nat.lt_trans hb (by decide))
 have h := mul_right da db
 have hc0 : 0 ≤ c := by
  have := Int.mul_nonneg h1 h2
  (first | lia | omega)
 rw [decide_eq_false (Int.not_lt.mpr h1), decide_eq_false (Int.not_lt.mpr h2), va, vb, natAbs_K, natAbs_K] at h
 have hn : a.natAbs * b.natAbs = 1024 * c.natAbs := by rw [← Int.natAbs_mul, hc, Int.natAbs_mul]; rfl
 refine F_of (c := c) (by rw [decide_eq_false (Int.not_lt.mpr hc0)]; exact h) (Nat.two_pow_pos _) (by (first | lia | omega)) ?_
 rw [p74]
 generalize (2 : Nat) ^ 1064 = K
 calc a.natAbs * K * (b.natAbs * K) = a.natAbs * b.natAbs * (K * K) := by ac_rfl
  _ = 1024 * c.natAbs * (K * K) := by rw [hn]
  _ = _ := by ac_rfl
theorem F_div {a b c : Int} (ha : a.natAbs < 2 ^ 40) (hb : b.natAbs < 2 ^ 40) (h2 : 0 < b) (hc : 1024 * a = b * c) (hl : c.natAbs < 2 ^ 40) : div (F a) (F b) = F c := by
 obtain ⟨m, e, da, _, va⟩ := F_dec (z := a) (Nat.lt_trans ha (by decide))
 obtain ⟨k, f, db, hk, vb⟩ := F_dec (z := b) (Nat.lt_trans hb (by decide))
 have hk0 : k ≠ 0 := fun q => by
  rw [q, Nat.zero_mul] at hk
  have : 0 < b.natAbs * 2 ^ 1064 := Nat.mul_pos (by (first | lia | omega)) (Nat.two_pow_pos _)
  (first | lia | omega)
 have h := div_right da db hk0
 have hsg : (decide (a < 0) != decide (b < 0)) = decide (c < 0) := by
  rw [decide_eq_false (by (first | lia | omega) : ¬ b < 0), Bool.bne_false]
  by_cases q : a < 0
  ·have : c < 0 := by
    apply Int.not_le.mp; intro hc0
    have := Int.mul_nonneg (Int.le_of_lt h2) hc0
    (first | lia | omega)
   rw [decide_eq_true q, decide_eq_true this]
  ·have : ¬ c < 0 := fun hc0 => by
    have := Int.mul_neg_of_pos_of_neg h2 hc0
    (first | lia | omega)
   rw [decide_eq_false q, decide_eq_false this]
 rw [hsg, va, vb, natAbs_K, natAbs_K] at h
 have hn : 1024 * a.natAbs = b.natAbs * c.natAbs := by
  rw [← Int.natAbs_mul, ← hc, Int.natAbs_mul]; rfl
 refine F_of h (Nat.mul_pos (by (first | lia | omega)) (Nat.two_pow_pos _)) (by (first | lia | omega)) ?_
 rw [p74]
 generalize (2 : Nat) ^ 1064 = K
 calc a.natAbs * K * (1024 * K) = 1024 * a.natAbs * (K * K) := by ac_rfl
  _ = b.natAbs * c.natAbs * (K * K) := by rw [hn]
  _ = _ := by ac_rfl
theorem F_frac {n d c : Nat} (hd : 0 < d) (hc : c * d = 1024 * n) (hl : c < 2 ^ 40) : ofFrac false n d = F c := by
 refine F_of (c := (c : Int)) (W := n * 2 ^ 1074) (D := d) (by rw [decide_eq_false (by (first | lia | omega))]; exact ofFrac_right hd rfl hd) hd (by (first | lia | omega)) ?_
 rw [p74, Int.natAbs_natCast]
 generalize (2 : Nat) ^ 1064 = K
 calc n * (1024 * K) = 1024 * n * K := by ac_rfl
  _ = c * d * K := by rw [hc]
  _ = _ := by ac_rfl
theorem F_int {i : Int} (h : i.natAbs < 2 ^ 40) : ofInt i = F (1024 * i) := by
 have hs : decide (i < 0) = decide (1024 * i < 0) := by
  by_cases q : i < 0
  ·rw [decide_eq_true q, decide_eq_true (by (first | lia | omega))]
  ·rw [decide_eq_false q, decide_eq_false (by (first | lia | omega))]
 refine F_of (W := i.natAbs * 2 ^ 1074) (D := 1) (by rw [← hs]; exact ofInt_right i) (by decide) (by (first | lia | omega)) ?_
 rw [p74, Int.natAbs_mul, Nat.one_mul, show (1024 : Int).natAbs = 1024 from rfl]
 ac_rfl
theorem F_cmp {a b : Int} (ha : a.natAbs < 2 ^ 40) (hb : b.natAbs < 2 ^ 40) : cmp (F a) (F b) = some (compare a b) := by
 obtain ⟨m, e, da, _, va⟩ := F_dec (z := a) (Nat.lt_trans ha (by decide))
 obtain ⟨k, f, db, _, vb⟩ := F_dec (z := b) (Nat.lt_trans hb (by decide))
 rw [cmp_right da db, va, vb]
 have hK := K_pos
 generalize ((2 ^ 1064 : Nat) : Int) = K at *
 congr 1
 rcases Int.lt_trichotomy a b with q | q | q
 ·rw [Int.compare_eq_lt.mpr q, Int.compare_eq_lt.mpr (Int.mul_lt_mul_of_pos_right q hK)]
 ·subst q; simp
 ·rw [Int.compare_eq_gt.mpr q, Int.compare_eq_gt.mpr (Int.mul_lt_mul_of_pos_right q hK)]
theorem F_isZero {b : Int} (hb : b.natAbs < 2 ^ 40) : isZero (F b) = decide (b = 0) := by
 obtain ⟨k, f, db, hk, vb⟩ := F_dec (z := b) (Nat.lt_trans hb (by decide))
 unfold isZero
 rw [db]
 by_cases q : b = 0
 ·subst q
  have : k = 0 := by
   rw [show ((0 : Int)).natAbs = 0 from rfl, Nat.zero_mul] at hk
   rcases Nat.mul_eq_zero.mp hk with h | h
   ·exact h
   ·exact absurd h (Nat.ne_of_gt (Nat.two_pow_pos _))
  subst this
  rfl
 ·rw [decide_eq_false q]
  cases k with
  | zero =>
   rw [Nat.zero_mul] at hk
   have : 0 < b.natAbs * 2 ^ 1064 := Nat.mul_pos (by (first | lia | omega)) (Nat.two_pow_pos _)
   (first | lia | omega)
  | succ k => rfl
theorem F_trunc {z : Int} (h : z.natAbs < 2 ^ 40) (h0 : 0 ≤ z) : ∃ m e, decode (F z) = .fin false m e ∧ truncOf false m e = z / 1024 := by
 obtain ⟨m, e, da, hm, _⟩ := F_dec (z := z) (Nat.lt_trans h (by decide))
 rw [decide_eq_false (by (first | lia | omega))] at da
 refine ⟨m, e, da, ?_⟩
 have hge := decode_ge da
 show floorOf false m e = _
 unfold floorOf
 obtain ⟨n, rfl⟩ := Int.eq_ofNat_of_zero_le h0
 rw [Int.natAbs_natCast] at hm
 have hp := Nat.two_pow_pos 1064
 split
 ·rename_i q
  have e1 : (e + 1074).toNat = e.toNat + 1074 := by (first | lia | omega)
  rw [e1, Nat.pow_add, p74] at hm
  have h3 : m * 2 ^ e.toNat * 1024 = n := by
   refine Nat.eq_of_mul_eq_mul_right hp ?_
   rw [← hm]
   generalize (2 : Nat) ^ 1064 = K
   ac_rfl
  have h4 : n / 1024 = m * 2 ^ e.toNat := by (first | lia | omega)
  show (m : Int) * 2 ^ e.toNat = _
  rw [show (1024 : Int) = ((1024 : Nat) : Int) from rfl, ← Int.natCast_ediv, h4, Int.natCast_mul, Int.natCast_pow]; rfl
 ·rename_i q
  have e1 : 1074 = (e + 1074).toNat + (-e).toNat := by (first | lia | omega)
  have h3 : m * 1024 = n * 2 ^ (-e).toNat := by
   refine Nat.eq_of_mul_eq_mul_right hp ?_
   have : m * 2 ^ 1074 = n * 2 ^ 1064 * 2 ^ (-e).toNat := by
    rw [← hm, Nat.mul_assoc, ← Nat.pow_add, ← e1]
   rw [p74] at this
   generalize (2 : Nat) ^ 1064 = K at *
   calc m * 1024 * K = m * (1024 * K) := by ac_rfl
    _ = _ := this
    _ = _ := by ac_rfl
  have hj := Nat.two_pow_pos (-e).toNat
  have h4 : m / 2 ^ (-e).toNat = n / 1024 := by
   rw [← Nat.mul_div_mul_right m (2 ^ (-e).toNat) (by decide : 0 < 1024), h3, Nat.mul_comm (2 ^ (-e).toNat) 1024, Nat.mul_div_mul_right _ _ hj]
  show (m : Int).fdiv (2 ^ (-e).toNat) = _
  rw [Int.fdiv_eq_ediv_of_nonneg _ (by exact Int.le_of_lt (Int.pow_pos (by decide)))]
  rw [show (1024 : Int) = ((1024 : Nat) : Int) from rfl, ← Int.natCast_ediv, ← h4, Int.natCast_ediv, Int.natCast_pow]; rfl
theorem nat_split {e m : Int} (h : m ≤ e) (h2 : -1074 ≤ m) : (e - m).toNat + (m + 1074).toNat = (e + 1074).toNat := by
 rw [← Int.toNat_add (Int.sub_nonneg.mpr h) (by omega), ← Int.add_assoc, Int.sub_add_cancel]
theorem F_fmod {a b : Int} (ha : a.natAbs < 2 ^ 40) (hb : b.natAbs < 2 ^ 40) (h2 : 0 < b) : ∃ t, t < infMag ∧ V t = (a.natAbs % b.natAbs) * 2 ^ 1064 ∧ fmod (F a) (F b) = pack (decide (a < 0)) t := by
 obtain ⟨m, e, da, hm, _⟩ := F_dec (z := a) (Nat.lt_trans ha (by decide))
 obtain ⟨k, f, db, hk, _⟩ := F_dec (z := b) (Nat.lt_trans hb (by decide))
 have he := decode_ge da
 have hf := decode_ge db
 have hk0 : k ≠ 0 := fun q => by
  rw [q, Nat.zero_mul] at hk
  have : 0 < b.natAbs * 2 ^ 1064 := Nat.mul_pos (by (first | lia | omega)) (Nat.two_pow_pos _)
  (first | lia | omega)
 have hlt : a.natAbs % b.natAbs < 2 ^ 50 := Nat.lt_trans (Nat.lt_of_le_of_lt (Nat.mod_le _ _) ha) (by decide)
 obtain ⟨t, t1, t2⟩ := exact_t hlt
 refine ⟨t, t1, t2, ?_⟩
 have hfm : fmod (F a) (F b) = ofBin (decide (a < 0)) ((m * 2 ^ (e - min e f).toNat) % (k * 2 ^ (f - min e f).toNat)) (min e f) := by
  unfold fmod
  rw [da, db]
  simp only
  rw [if_neg (by simpa using hk0)]
  rfl
 rw [hfm]
 have R : Right (ofBin (decide (a < 0)) ((m * 2 ^ (e - min e f).toNat) % (k * 2 ^ (f - min e f).toNat)) (min e f)) (decide (a < 0)) (((m * 2 ^ (e - min e f).toNat) % (k * 2 ^ (f - min e f).toNat)) * 2 ^ (min e f + 1074).toNat) 1 := by
  unfold ofBin
  refine ofFrac_right (shift_pos _ _ _ (by decide)) ?_ (by decide)
  have := shift_one ((m * 2 ^ (e - min e f).toNat) % (k * 2 ^ (f - min e f).toNat)) (min e f) 1074 (by (first | lia | omega))
  rw [Nat.mul_one]
  exact this
 refine right_exact R (by decide) (by rw [t2]; exact lt1200 hlt) ?_
 rw [Nat.one_mul, t2, ← Nat.mul_mod_mul_right, Nat.mul_assoc, Nat.mul_assoc, ← Nat.pow_add, ← Nat.pow_add]
 have e1 := nat_split (Int.min_le_left e f) (Int.le_min.mpr ⟨he, hf⟩)
 have e2 := nat_split (Int.min_le_right e f) (Int.le_min.mpr ⟨he, hf⟩)
 rw [e1, e2, hm, hk, Nat.mul_mod_mul_right]
theorem F_is {z : Int} {t : Nat} (h : z.natAbs < 2 ^ 50) (hv : V t = z.natAbs * 2 ^ 1064) : pack (decide (z < 0)) t = F z := by
 obtain ⟨t', h1, h2, e⟩ := F_pack h
 rw [e, V_inj (hv.trans h2.symm)]
theorem F_sign {b : Int} (hb : b.natAbs < 2 ^ 40) (h2 : 0 < b) : signBit (F b) = false := by
 obtain ⟨t, h1, _, e⟩ := F_pack (z := b) (Nat.lt_trans hb (by decide))
 have hi : infMag = 2047 * 2 ^ 52 := rfl
 rw [decide_eq_false (by (first | lia | omega))] at e
 unfold signBit
 rw [e, pack_toNat false (by (first | lia | omega))]
 have : ((if false = true then 2 ^ 63 else 0) + t) / 2 ^ 63 = 0 := by
  show (0 + t) / 2 ^ 63 = 0
  (first | lia | omega)
 rw [this]; rfl
theorem copy0 {b : Int} (hb : b.natAbs < 2 ^ 40) (h2 : 0 < b) : copysign (zero false) (F b) = F 0 := by
 unfold copysign
 rw [F_sign hb h2, F_zero]
 decide +kernel
theorem F_mod {a b : Int} (ha : a.natAbs < 2 ^ 40) (hb : b.natAbs < 2 ^ 40) (h2 : 0 < b) : (Float64.divmod (F a) (F b)).2 = F (a % b) := by
 obtain ⟨t, t1, t2, e⟩ := F_fmod ha hb h2
 have hr : a.natAbs % b.natAbs < 2 ^ 40 := Nat.lt_of_le_of_lt (Nat.mod_le _ _) ha
 have key : (Float64.divmod (F a) (F b)).2 = (if isZero (fmod (F a) (F b)) then copysign (zero false) (F b) else if lt (F b) (zero false) != lt (fmod (F a) (F b)) (zero false) then add (fmod (F a) (F b)) (F b) else fmod (F a) (F b)) := by
  unfold Float64.divmod
  dsimp only
  split
  ·rfl
  ·split <;> rfl
 rw [key, copy0 hb h2]
 obtain ⟨B, rfl⟩ := Int.eq_ofNat_of_zero_le (Int.le_of_lt h2)
 rw [Int.natAbs_natCast] at *
 have hB : 0 < B := by (first | lia | omega)
 have hzb : lt (F (B : Int)) (zero false) = false := by
  unfold lt
  rw [← F_zero, F_cmp (by rw [Int.natAbs_natCast]; exact hb) (by decide), Int.compare_eq_gt.mpr h2]; rfl
 rw [hzb]
 by_cases hs : a < 0
 ·rw [decide_eq_true hs] at e
  by_cases h0 : a.natAbs % B = 0
  ·rw [h0, Nat.zero_mul] at t2
   have : t = 0 := V_inj (t2.trans V_zero.symm)
   subst this
   rw [e, if_pos (by decide +kernel)]
   have : a % (B : Int) = 0 := by
    have := Nat.dvd_of_mod_eq_zero h0
    exact Int.emod_eq_zero_of_dvd (Int.natAbs_dvd_natAbs.mp (by rw [Int.natAbs_natCast]; exact this))
   rw [this]
  ·have hneg : (-((a.natAbs % B : Nat) : Int)) < 0 := by (first | lia | omega)
   have hf : fmod (F a) (F B) = F (-((a.natAbs % B : Nat) : Int)) := by
    rw [e, ← F_is (z := -((a.natAbs % B : Nat) : Int)) (t := t) (by (first | lia | omega)) (by rw [t2, Int.natAbs_neg, Int.natAbs_natCast]), decide_eq_true hneg]
   rw [hf, F_isZero (by (first | lia | omega)), decide_eq_false (by (first | lia | omega)), if_neg Bool.false_ne_true]
   have hl : lt (F (-((a.natAbs % B : Nat) : Int))) (zero false) = true := by
    unfold lt
    rw [← F_zero, F_cmp (by (first | lia | omega)) (by decide), Int.compare_eq_lt.mpr hneg]; rfl
   rw [hl, if_pos (by decide), F_add (by (first | lia | omega)) (by rw [Int.natAbs_natCast]; exact hb)]
   congr 1
   have h5 : a = -(a.natAbs : Int) := by (first | lia | omega)
   have h6 : ((a.natAbs % B : Nat) : Int) = (a.natAbs : Int) % (B : Int) := Int.natCast_emod ..
   have h7 := Nat.mod_lt a.natAbs hB
   have h8 := Int.emod_add_mul_ediv (a.natAbs : Int) (B : Int)
   have h9 : a = -((a.natAbs : Int) % (B : Int)) + (B : Int) + (B : Int) * (-((a.natAbs : Int) / (B : Int)) - 1) := by
    rw [Int.mul_sub, Int.mul_neg, Int.mul_one]; (first | lia | omega)
   conv => rhs; rw [h9]
   rw [Int.add_mul_emod_self_left, ← h6]
   exact (Int.emod_eq_of_lt (by (first | lia | omega)) (by (first | lia | omega))).symm
 ·rw [decide_eq_false hs] at e
  have hf : fmod (F a) (F B) = F ((a.natAbs % B : Nat) : Int) := by
   rw [e, ← F_is (z := ((a.natAbs % B : Nat) : Int)) (t := t) (by (first | lia | omega)) (by rw [t2, Int.natAbs_natCast]), decide_eq_false (by (first | lia | omega))]
  have hm : a % (B : Int) = ((a.natAbs % B : Nat) : Int) := by
   have h5 : a = (a.natAbs : Int) := by (first | lia | omega)
   rw [Int.natCast_emod, ← h5]
  rw [hf, hm, F_isZero (by (first | lia | omega))]
  by_cases h0 : a.natAbs % B = 0
  ·rw [h0]; rfl
  ·rw [decide_eq_false (by (first | lia | omega)), if_neg Bool.false_ne_true]
   have hl : lt (F ((a.natAbs % B : Nat) : Int)) (zero false) = false := by
    unfold lt
    rw [← F_zero, F_cmp (by (first | lia | omega)) (by decide), Int.compare_eq_gt.mpr (by (first | lia | omega))]; rfl
   rw [hl]; rfl
inductive Fl where
 | dy (z : Int)
 | un (b : UInt64)
noncomputable def Fl.u : Fl → UInt64
 | .dy z => F z
 | .un b => b
noncomputable def Fl.add (x y : Fl) : Fl := match x, y with
 | .dy a, .dy b => match small a && small b with
  | true => .dy (a + b)
  | false => .un (Float64.add (F a) (F b))
 | x, y => .un (Float64.add x.u y.u)
noncomputable def Fl.sub (x y : Fl) : Fl := match x, y with
 | .dy a, .dy b => match small a && (small b && W.Z.leB 0 a) with
  | true => .dy (a - b)
  | false => .un (Float64.sub (F a) (F b))
 | x, y => .un (Float64.sub x.u y.u)
noncomputable def Fl.mul (x y : Fl) : Fl := match x, y with
 | .dy a, .dy b => match small a && (small b && (W.Z.leB 0 a && (W.Z.leB 0 b && (Nat.beq ((a * b).natAbs % 1024) 0 && Nat.blt ((a * b).natAbs / 1024) (2 ^ 40))))) with
  | true => .dy ((a * b).natAbs / 1024 : Nat)
  | false => .un (Float64.mul (F a) (F b))
 | x, y => .un (Float64.mul x.u y.u)
noncomputable def Fl.div (x y : Fl) : Fl := match x, y with
 | .dy a, .dy b => match small a && (small b && (W.Z.ltB 0 b && (W.Z.eqB (b * ((1024 * a) / b)) (1024 * a) && small ((1024 * a) / b)))) with
  | true => .dy ((1024 * a) / b)
  | false => .un (Float64.div (F a) (F b))
 | x, y => .un (Float64.div x.u y.u)
noncomputable def Fl.mod (x y : Fl) : Fl := match x, y with
 | .dy a, .dy b => match small a && (small b && W.Z.ltB 0 b) with
  | true => .dy (a % b)
  | false => .un (Float64.divmod (F a) (F b)).2
 | x, y => .un (Float64.divmod x.u y.u).2
noncomputable def Fl.ofI (i : Int) : Fl := match small i with
 | true => .dy (1024 * i)
 | false => .un (Float64.ofInt i)
noncomputable def Fl.frac (sg : Bool) (n d : Nat) : Fl := match sg with
 | false => match Nat.blt 0 d && (Nat.beq (1024 * n / d * d) (1024 * n) && Nat.blt (1024 * n / d) (2 ^ 40)) with
  | true => .dy (1024 * n / d : Nat)
  | false => .un (Float64.ofFrac false n d)
 | true => .un (Float64.ofFrac true n d)
noncomputable def Fl.zero (x : Fl) : Bool := match x with
 | .dy a => match small a with
  | true => W.Z.eqB a 0
  | false => Float64.isZero (F a)
 | .un b => Float64.isZero b
noncomputable def Fl.eq (x y : Fl) : Bool := match x, y with
 | .dy a, .dy b => match small a && small b with
  | true => W.Z.eqB a b
  | false => Float64.cmp (F a) (F b) == some .eq
 | x, y => Float64.cmp x.u y.u == some .eq
noncomputable def Fl.lt (x y : Fl) : Bool := match x, y with
 | .dy a, .dy b => match small a && small b with
  | true => W.Z.ltB a b
  | false => Float64.cmp (F a) (F b) == some .lt
 | x, y => Float64.cmp x.u y.u == some .lt
noncomputable def Fl.trunc (x : Fl) : Option Int := match x with
 | .dy a => match small a && W.Z.leB 0 a with
  | true => some (a / 1024)
  | false => none
 | .un _ => none
theorem zle {a b : Int} (h : W.Z.leB a b = true) : a ≤ b := (W.Z.leB_iff a b).mp h
theorem zlt {a b : Int} (h : W.Z.ltB a b = true) : a < b := (W.Z.ltB_iff a b).mp h
theorem zeq {a b : Int} (h : W.Z.eqB a b = true) : a = b := (W.Z.eqB_iff a b).mp h
theorem Fl.add_u (x y : Fl) : (Fl.add x y).u = Float64.add x.u y.u := by
 unfold Fl.add
 split
 ·split
  ·rename_i h
   obtain ⟨h1, h2⟩ := Bool.and_eq_true_iff.mp h
   exact (F_add (small_lt h1) (small_lt h2)).symm
  ·rfl
 ·rfl
theorem Fl.sub_u (x y : Fl) : (Fl.sub x y).u = Float64.sub x.u y.u := by
 unfold Fl.sub
 split
 ·split
  ·rename_i h
   obtain ⟨h1, h⟩ := Bool.and_eq_true_iff.mp h
   obtain ⟨h2, h3⟩ := Bool.and_eq_true_iff.mp h
   exact (F_sub (small_lt h1) (small_lt h2) (Int.not_lt.mpr (zle h3))).symm
  ·rfl
 ·rfl
theorem Fl.mul_u (x y : Fl) : (Fl.mul x y).u = Float64.mul x.u y.u := by
 unfold Fl.mul
 split
 ·split
  ·rename_i a b h
   obtain ⟨h1, h⟩ := Bool.and_eq_true_iff.mp h
   obtain ⟨h2, h⟩ := Bool.and_eq_true_iff.mp h
   obtain ⟨h3, h⟩ := Bool.and_eq_true_iff.mp h
   obtain ⟨h4, h⟩ := Bool.and_eq_true_iff.mp h
   obtain ⟨h5, h6⟩ := Bool.and_eq_true_iff.mp h
   have h5 := Nat.eq_of_beq_eq_true h5
   have h6 := Nat.blt_eq.mp h6
   have h7 := Int.mul_nonneg (zle h3) (zle h4)
   exact (F_mul (small_lt h1) (small_lt h2) (zle h3) (zle h4) (by (first | lia | omega)) (by (first | lia | omega))).symm
  ·rfl
 ·rfl
theorem Fl.div_u (x y : Fl) : (Fl.div x y).u = Float64.div x.u y.u := by
 unfold Fl.div
 split
 ·split
  ·rename_i a b h
   obtain ⟨h1, h⟩ := Bool.and_eq_true_iff.mp h
   obtain ⟨h2, h⟩ := Bool.and_eq_true_iff.mp h
   obtain ⟨h3, h⟩ := Bool.and_eq_true_iff.mp h
   obtain ⟨h4, h5⟩ := Bool.and_eq_true_iff.mp h
   exact (F_div (small_lt h1) (small_lt h2) (zlt h3) (zeq h4).symm (small_lt h5)).symm
  ·rfl
 ·rfl
theorem Fl.mod_u (x y : Fl) : (Fl.mod x y).u = (Float64.divmod x.u y.u).2 := by
 unfold Fl.mod
 split
 ·split
  ·rename_i a b h
   obtain ⟨h1, h⟩ := Bool.and_eq_true_iff.mp h
   obtain ⟨h2, h3⟩ := Bool.and_eq_true_iff.mp h
   exact (F_mod (small_lt h1) (small_lt h2) (zlt h3)).symm
  ·rfl
 ·rfl
theorem Fl.ofI_u (i : Int) : (Fl.ofI i).u = Float64.ofInt i := by
 unfold Fl.ofI
 split
 ·rename_i h
  exact (F_int (small_lt h)).symm
 ·rfl
theorem Fl.frac_u (sg : Bool) (n d : Nat) : (Fl.frac sg n d).u = Float64.ofFrac sg n d := by
 unfold Fl.frac
 split
 ·split
  ·rename_i h
   obtain ⟨h1, h⟩ := Bool.and_eq_true_iff.mp h
   obtain ⟨h2, h3⟩ := Bool.and_eq_true_iff.mp h
   exact (F_frac (Nat.blt_eq.mp h1) (Nat.eq_of_beq_eq_true h2) (Nat.blt_eq.mp h3)).symm
  ·rfl
 ·rfl
theorem Fl.zero_u (x : Fl) : Fl.zero x = Float64.isZero x.u := by
 unfold Fl.zero
 split
 ·split
  ·rename_i a _ h
   show _ = Float64.isZero (F a)
   rw [F_isZero (small_lt h)]
   cases q : W.Z.eqB a 0 with
   | true => rw [decide_eq_true (zeq q)]
   | false => rw [decide_eq_false fun e => by rw [e] at q; cases q]
  ·rfl
 ·rfl
theorem Fl.eq_u (x y : Fl) : Fl.eq x y = (Float64.cmp x.u y.u == some .eq) := by
 unfold Fl.eq
 split
 ·split
  ·rename_i a b _ h
   obtain ⟨h1, h2⟩ := Bool.and_eq_true_iff.mp h
   show _ = (Float64.cmp (F a) (F b) == some .eq)
   rw [F_cmp (small_lt h1) (small_lt h2)]
   rcases Int.lt_trichotomy a b with q | q | q
   ·rw [Int.compare_eq_lt.mpr q]
    have : W.Z.eqB a b = false := by
     cases e : W.Z.eqB a b with
     | false => rfl
     | true => have := zeq e; (first | lia | omega)
    rw [this]; rfl
   ·subst q
    have : W.Z.eqB a a = true := (W.Z.eqB_iff a a).mpr rfl
    rw [this]; simp
   ·rw [Int.compare_eq_gt.mpr q]
    have : W.Z.eqB a b = false := by
     cases e : W.Z.eqB a b with
     | false => rfl
     | true => have := zeq e; (first | lia | omega)
    rw [this]; rfl
  ·rfl
 ·rfl
theorem Fl.lt_u (x y : Fl) : Fl.lt x y = (Float64.cmp x.u y.u == some .lt) := by
 unfold Fl.lt
 split
 ·split
  ·rename_i a b _ h
   obtain ⟨h1, h2⟩ := Bool.and_eq_true_iff.mp h
   show _ = (Float64.cmp (F a) (F b) == some .lt)
   rw [F_cmp (small_lt h1) (small_lt h2)]
   have no : ¬ a < b → W.Z.ltB a b = false := fun q => by
    cases e : W.Z.ltB a b with
    | false => rfl
    | true => exact absurd (zlt e) q
   rcases Int.lt_trichotomy a b with q | q | q
   ·rw [Int.compare_eq_lt.mpr q]
    have : W.Z.ltB a b = true := (W.Z.ltB_iff a b).mpr q
    rw [this]; rfl
   ·subst q
    rw [no (Int.lt_irrefl _)]; simp
   ·rw [Int.compare_eq_gt.mpr q, no (by (first | lia | omega))]; rfl
  ·rfl
 ·rfl
theorem Fl.trunc_u {x : Fl} {i : Int} (h : Fl.trunc x = some i) : ∃ m e, Float64.decode x.u = .fin false m e ∧ Float64.truncOf false m e = i := by
 unfold Fl.trunc at h
 split at h
 ·split at h
  ·rename_i a q
   cases h
   obtain ⟨h1, h2⟩ := Bool.and_eq_true_iff.mp q
   exact F_trunc (small_lt h1) (zle h2)
  ·cases h
 ·cases h
noncomputable def Fl.gt (x y : Fl) : Bool := Fl.lt y x
theorem Fl.gt_u (x y : Fl) : Fl.gt x y = (Float64.cmp x.u y.u == some .gt) := by
 unfold Fl.gt
 rw [Fl.lt_u, Flt.cmp_gt]
noncomputable def Fl.le (x y : Fl) : Bool := Fl.lt x y || Fl.eq x y
theorem Fl.le_u (x y : Fl) : Fl.le x y = (Float64.cmp x.u y.u == some .lt || Float64.cmp x.u y.u == some .eq) := by
 unfold Fl.le
 rw [Fl.lt_u, Fl.eq_u]
theorem fitsI {i : Int} (h : small i = true) : Float64.isInf (Float64.ofInt i) = false := by
 rw [F_int (small_lt h)]
 obtain ⟨m, e, d, _⟩ := F_dec (z := 1024 * i) (by have := small_lt h; (first | lia | omega))
 unfold Float64.isInf
 rw [d]
end Mine
end
section
open PySem
set_option genSizeOf false
set_option genInjectivity false
namespace Mine
inductive K3 where
 | loc | cel | fre | glb
 deriving DecidableEq
noncomputable def K3.kind : K3 → NameKind
 | .loc => .local
 | .cel => .cell
 | .fre => .free
 | .glb => .globalImplicit
inductive AC where
 | none
 | bool (b : Bool)
 | int (i : Int)
 | flt (b : Fl)
 | str (s : List Nat)
inductive BF where
 | len | sum | list | tuple | sorted | divmod | max | min | int | chr | range
inductive MF where
 | split | startswith | endswith | find | bitLength | append | reverse | insert | index | join
inductive Tg where
 | name (k : Nat) (p : Pos)
 | tup (ks : List (Nat × Pos)) (p : Pos)
mutual
inductive X where
 | cst (c : Const) (v : AC) (p : Pos)
 | var (k : Nat) (p : Pos)
 | gcon (k : Nat) (v : AC) (p : Pos)
 | bin (l : X) (op : Operator) (r : X) (p : Pos)
 | un (op : UnaryOp) (x : X) (p : Pos)
 | bop (op : BoolOp) (xs : List X) (p : Pos)
 | cmp (l : X) (op : CmpOp) (r : X) (p : Pos)
 | cmp2 (l : X) (op : CmpOp) (m : X) (op2 : CmpOp) (r : X) (p : Pos)
 | ite (c t e : X) (p : Pos)
 | tupl (xs : List X) (p : Pos)
 | list (xs : List X) (p : Pos)
 | idx (o i : X) (p : Pos)
 | slc (o : X) (lo hi st : Xo) (sp p : Pos)
 | gcall (f : Nat) (k : Nat) (args : List X) (kw : List Kw) (np p : Pos)
 | bcall (b : BF) (args : List X) (np p : Pos)
 | sortk (arg : X) (key : X) (kp np p : Pos)
 | mcall (m : MF) (o : X) (args : List X) (ap p : Pos)
 | vcall (k : Nat) (args : List X) (np p : Pos)
 | comp (elt : X) (gs : List G) (kd : List (Nat × K3)) (p : Pos)
 | lam (ps : List (Nat × Pos)) (body : X) (kd : List (Nat × K3)) (mo : List (Str × Const)) (p : Pos)
 | raw (e : PySem.Expr)
inductive Xo where
 | no
 | so (x : X)
inductive Kw where
 | mk (k : Nat) (x : X) (p : Pos)
inductive It where
 | pl (x : X)
 | en (x : X) (np p : Pos)
 | zp (x y : X) (np p : Pos)
 | rv (x : X) (np p : Pos)
inductive G where
 | mk (t : Tg) (it : It) (ifs : List X)
end
structure TD where
 f : Nat
 k : Nat
 a : X
 b : X
 q : Nat × Pos
 r : Nat × Pos
 tp : Pos
 fp : Pos
 cp : Pos
 ap : Pos
 zp : Pos
 en : Nat
 hp : Pos
 e1 : X
 e2 : X
 sf : Pos
 sa : Pos
 sc : Pos
 tt : Pos
 rt : Pos
 p : Pos
inductive S where
 | asg (t : Tg) (e : X) (p : Pos)
 | asw (ks : List (Nat × Pos)) (tp : Pos) (xs : List X) (vp p : Pos)
 | asc (k : Nat) (kp : Pos) (e : X) (p : Pos)
 | aug (k : Nat) (kp : Pos) (op : Operator) (e : X) (p : Pos)
 | seti (o i : X) (sp : Pos) (e : X) (p : Pos)
 | deli (o i : X) (sp p : Pos)
 | ifs (c : X) (t e : List S) (p : Pos)
 | fors (t : Tg) (it : It) (body : List S) (p : Pos)
 | whil (c : X) (body : List S) (p : Pos)
 | ret (e : X) (p : Pos)
 | retn (p : Pos)
 | asrt (c : X) (p : Pos)
 | expm (m : MF) (o : X) (args : List X) (ap cp p : Pos)
 | expc (e : X) (p : Pos)
 | defn (k : Nat) (ps : List (Nat × Pos)) (body : List S) (kd : List (Nat × K3)) (mo : List (Str × Const)) (p : Pos)
 | tryd (d : TD)
 | raw (s : PySem.Stmt)
inductive AV where
 | none
 | bool (b : Bool)
 | int (i : Int)
 | flt (b : Fl)
 | str (s : List Nat)
 | tup (xs : List AV)
 | ref (i : Nat)
 | cloX (ps : List (Nat × Pos)) (body : X) (kd : List (Nat × K3)) (mo : List (Str × Const)) (cs : List (Nat × Nat))
 | cloS (ps : List (Nat × Pos)) (body : List S) (kd : List (Nat × K3)) (mo : List (Str × Const)) (cs : List (Nat × Nat))
 | rng (a b c : Int)
 | frz (xs : List AV)
noncomputable def AC.av : AC → AV
 | .none => .none
 | .bool b => .bool b
 | .int i => .int i
 | .flt b => .flt b
 | .str s => .str s
inductive AO where
 | lst (xs : List AV)
 | cell (v : Option AV)
structure Fn where
 nmk : Nat
 ps : List (Nat × Pos)
 df : List X
 ko : List (Nat × Pos)
 kdf : List X
 body : List S
 kd : List (Nat × K3)
 mo : List (Str × Const)
 pure : Bool
 p : Pos
noncomputable abbrev Lo := List (Nat × AV)
noncomputable abbrev Ce := List (Nat × Nat)
noncomputable abbrev St := List AO
noncomputable def lkp {α : Type} (k : Nat) : List (Nat × α) → Option α
 | [] => none
 | (j, v) :: r => match Nat.beq j k with
  | true => some v
  | false => lkp k r
noncomputable def setL (k : Nat) (v : AV) : Lo → Lo
 | [] => [(k, v)]
 | (j, w) :: r => match Nat.beq j k with
  | true => (k, v) :: r
  | false => (j, w) :: setL k v r
noncomputable def nth {α : Type} : List α → Nat → Option α
 | [], _ => none
 | x :: _, 0 => some x
 | _ :: r, n + 1 => nth r n
noncomputable def setN {α : Type} (v : α) : List α → Nat → List α
 | [], _ => []
 | _ :: r, 0 => v :: r
 | x :: r, n + 1 => x :: setN v r n
noncomputable def eqL : List Nat → List Nat → Bool
 | [], [] => true
 | a :: r, b :: t => match Nat.beq a b with
  | true => eqL r t
  | false => false
 | _, _ => false
noncomputable def pre : List Nat → List Nat → Bool
 | [], _ => true
 | _ :: _, [] => false
 | a :: r, b :: t => match Nat.beq a b with
  | true => pre r t
  | false => false
noncomputable def isIn (w : List Nat) : List Nat → Bool
 | [] => w.isEmpty
 | b :: t => match pre w (b :: t) with
  | true => true
  | false => isIn w t
noncomputable def findF (w : List Nat) : List Nat → Nat → Option Nat
 | [], k => match w with
  | [] => some k
  | _ :: _ => none
 | b :: t, k => match pre w (b :: t) with
  | true => some k
  | false => findF w t (k + 1)
noncomputable def findL (s w : List Nat) (a b : Nat) : Option Nat := findF w ((s.take b).drop a) a
noncomputable def splitL (w : List Nat) : Nat → List Nat → List Nat → List (List Nat)
 | 0, acc, s => [acc.reverse ++ s]
 | _ + 1, acc, [] => [acc.reverse]
 | n + 1, acc, c :: t => match pre w (c :: t) with
  | true => acc.reverse :: splitL w n [] ((c :: t).drop w.length)
  | false => splitL w n (c :: acc) t
noncomputable def joinL (w : List Nat) : List (List Nat) → List Nat
 | [] => []
 | [x] => x
 | x :: y :: r => x ++ (w ++ joinL w (y :: r))
noncomputable def rep {α : Type} (s : List α) : Nat → List α
 | 0 => []
 | n + 1 => s ++ rep s n
noncomputable def ltI (a b : Int) : Bool := PySem.W.Z.ltB a b
noncomputable def leI (a b : Int) : Bool := PySem.W.Z.leB a b
noncomputable def eqI (a b : Int) : Bool := PySem.W.Z.eqB a b
noncomputable def smallI (a : Int) : Bool := Nat.blt a.natAbs 4611686018427387904
noncomputable def smallL {α : Type} (xs : List α) : Bool := Nat.blt xs.length 1000000
noncomputable def sliceL {α : Type} (xs : List α) (lo hi st : Option Int) : List α :=
 (sliceRange (sliceBounds lo hi st xs.length).1 (sliceBounds lo hi st xs.length).2.1 (sliceBounds lo hi st xs.length).2.2).filterMap (nth xs)
noncomputable def fEq (a b : UInt64) : Bool := Float64.cmp a b == some Ordering.eq
noncomputable def fLt (a b : UInt64) : Bool := Float64.cmp a b == some Ordering.lt
noncomputable def fLe (a b : UInt64) : Bool := match Float64.cmp a b with
 | some .lt => true
 | some .eq => true
 | _ => false
noncomputable def ixOf (i : Int) (n : Nat) : Option Nat := match ltI i 0 with
 | true => match leI (-(n : Int)) i with
  | true => some (i + n).toNat
  | false => none
 | false => match ltI i n with
  | true => some i.toNat
  | false => none
noncomputable def getLst (H : St) (i : Nat) : Option (List AV) := match nth H i with
 | some (.lst xs) => some xs
 | _ => none
noncomputable def getCell (H : St) (i : Nat) : Option AV := match nth H i with
 | some (.cell (some v)) => some v
 | _ => none
mutual
noncomputable def old (n : Nat) : AV → Bool
 | .tup xs => olds n xs
 | .frz xs => olds n xs
 | .ref i => Nat.blt i n
 | .cloX _ _ _ _ _ => false
 | .cloS _ _ _ _ _ => false
 | _ => true
noncomputable def olds (n : Nat) : List AV → Bool
 | [] => true
 | x :: r => old n x && olds n r
end
end Mine
end
section
open PySem
namespace Mine
section
variable {α β γ : Type}
noncomputable def ob1 (o : Option α) (f : α → Option γ) : Option γ := match o with
 | some a => f a
 | none => none
noncomputable def ob2 (o : Option (α × β)) (f : α → β → Option γ) : Option γ := match o with
 | some (a, b) => f a b
 | none => none
noncomputable def gd (b : Bool) (x : Option γ) : Option γ := match b with
 | true => x
 | false => none
noncomputable def alt (a b : Option γ) : Option γ := match a with
 | none => b
 | some r => some r
noncomputable def asN (u : AV) (x : Option γ) : Option γ := match u with
 | .none => x
 | _ => none
noncomputable def asB (u : AV) (f : Bool → Option γ) : Option γ := match u with
 | .bool i => f i
 | _ => none
noncomputable def asI (u : AV) (f : Int → Option γ) : Option γ := match u with
 | .int i => f i
 | _ => none
noncomputable def asF (u : AV) (f : Fl → Option γ) : Option γ := match u with
 | .flt i => f i
 | _ => none
noncomputable def asS (u : AV) (f : List Nat → Option γ) : Option γ := match u with
 | .str i => f i
 | _ => none
noncomputable def asT (u : AV) (f : List AV → Option γ) : Option γ := match u with
 | .tup i => f i
 | _ => none
noncomputable def asR (u : AV) (f : Nat → Option γ) : Option γ := match u with
 | .ref i => f i
 | _ => none
noncomputable def asZ (u : AV) (f : List AV → Option γ) : Option γ := match u with
 | .frz i => f i
 | _ => none
noncomputable def asG (u : AV) (f : Int → Int → Int → Option γ) : Option γ := match u with
 | .rng a b c => f a b c
 | _ => none
noncomputable def asC (u : AV) (x : Option γ) : Option γ := match u with
 | .cloX .. => x
 | _ => none
noncomputable def asL (H : St) (u : AV) (f : Nat → List AV → Option γ) : Option γ := asR u fun i => ob1 (getLst H i) (f i)
noncomputable def tk0 (vs : List AV) (x : Option γ) : Option γ := match vs with
 | [] => x
 | _ :: _ => none
noncomputable def tkc (vs : List AV) (f : AV → List AV → Option γ) : Option γ := match vs with
 | [] => none
 | v :: r => f v r
noncomputable def tk1 (vs : List AV) (f : AV → Option γ) : Option γ := tkc vs fun a r => tk0 r (f a)
noncomputable def tk2 (vs : List AV) (f : AV → AV → Option γ) : Option γ := tkc vs fun a r => tk1 r (f a)
noncomputable def tk3 (vs : List AV) (f : AV → AV → AV → Option γ) : Option γ := tkc vs fun a r => tk2 r (f a)
noncomputable def newL (H : St) (xs : List AV) : Option (AV × St) := some (.ref H.length, H ++ [.lst xs])
end
noncomputable def intsOf : List AV → Option (List Int)
 | [] => some []
 | x :: r => asI x fun i => ob1 (intsOf r) fun t => some (i :: t)
noncomputable def strsOf : List AV → Option (List (List Nat))
 | [] => some []
 | x :: r => asS x fun i => ob1 (strsOf r) fun t => some (i :: t)
noncomputable def asLI {γ : Type} (H : St) (u : AV) (f : List Int → Option γ) : Option γ := asL H u fun _ xs => ob1 (intsOf xs) f
noncomputable def asLS {γ : Type} (H : St) (u : AV) (f : List (List Nat) → Option γ) : Option γ := asL H u fun _ xs => ob1 (strsOf xs) f
noncomputable def home1 (n : Nat) (H : St) (got : List Nat) (v : AV) : Option (AV × List Nat × List AO) :=
 alt (asR v fun i => cond (Nat.blt i n) (some (.ref i, got, [])) <| gd (!got.contains i) <| ob1 (getLst H i) fun xs => gd (olds n xs) <| some (.ref (n + got.length), got ++ [i], [.lst xs])) <| gd (old n v) <| some (v, got, [])
noncomputable def homes (n : Nat) (H : St) : List Nat → List AV → Option (List AV × List Nat × List AO)
 | got, [] => some ([], got, [])
 | got, v :: r => ob1 (home1 n H got v) fun a => ob1 (homes n H a.2.1 r) fun b => some (a.1 :: b.1, b.2.1, a.2.2 ++ b.2.2)
noncomputable def home (n : Nat) (H : St) (v : AV) : Option (AV × List Nat × List AO) := alt (asT v fun xs => ob1 (homes n H [] xs) fun a => some (.tup a.1, a.2)) <| home1 n H [] v
noncomputable def binM (op : Operator) (a b : AV) (H : St) : Option (AV × St) := match op with
 | .Add => alt (asI a fun x => asI b fun y => some (.int (x + y), H)) <| alt (asF a fun x => asF b fun y => some (.flt (Fl.add x y), H)) <|
   alt (asS a fun x => asS b fun y => gd (smallL x && smallL y) <| some (.str (x ++ y), H)) <| alt (asT a fun x => asT b fun y => gd (smallL x && smallL y) <| some (.tup (x ++ y), H)) <|
   asL H a fun _ xs => asL H b fun _ ys => gd (smallL xs && smallL ys) <| newL H (xs ++ ys)
 | .Sub => alt (asI a fun x => asI b fun y => some (.int (x - y), H)) <| asF a fun x => alt (asF b fun y => some (.flt (Fl.sub x y), H)) <|
   asI b fun y => gd (small y) <| some (.flt (Fl.sub x (Fl.ofI y)), H)
 | .Mult => alt (asI a fun x => asI b fun y => gd (smallI x && smallI y) <| some (.int (x * y), H)) <| alt (asF a fun x => asF b fun y => some (.flt (Fl.mul x y), H)) <|
   alt (asS a fun x => asI b fun y => gd (smallL x && (leI 0 y && (leI y 1000 && Nat.ble (x.length * y.toNat) 1000000))) <| some (.str (rep x y.toNat), H)) <|
   asL H a fun _ xs => asI b fun y => gd (smallL xs && (leI 0 y && (leI y 1000 && Nat.ble (xs.length * y.toNat) 1000000))) <| newL H (rep xs y.toNat)
 | .FloorDiv => asI a fun x => asI b fun y => gd (smallI x && (smallI y && !eqI y 0)) <| some (.int (Int.fdiv x y), H)
 | .Mod => alt (asI a fun x => asI b fun y => gd (!eqI y 0) <| some (.int (Int.fmod x y), H)) <| asF a fun x => asF b fun y => gd (!Fl.zero y) <| some (.flt (Fl.mod x y), H)
 | .Div => alt (asI a fun x => asI b fun y => gd (!eqI y 0 && smallI x) <| some (.flt (Fl.frac (ltI x 0 != ltI y 0) x.natAbs y.natAbs), H)) <|
   asF a fun x => asF b fun y => gd (!Fl.zero y) <| some (.flt (Fl.div x y), H)
 | .LShift => asI a fun x => asI b fun y => gd (smallI x && (leI 0 y && leI y 1000)) <| some (.int (x * 2 ^ y.toNat), H)
 | .RShift => asI a fun x => asI b fun y => gd (leI 0 y && leI y 1000) <| some (.int (Int.fdiv x (2 ^ y.toNat)), H)
 | .BitXor => asI a fun x => asI b fun y => some (.int (Builtin.bitXor x y), H)
 | _ => none
noncomputable def truthM (v : AV) (H : St) : Option Bool := alt (asB v some) <| alt (asI v fun i => some (!eqI i 0)) <| alt (asS v fun s => gd (smallL s) <| some (!s.isEmpty)) <|
 asL H v fun _ xs => gd (smallL xs) <| some (!xs.isEmpty)
noncomputable def unM (op : UnaryOp) (a : AV) (H : St) : Option AV := match op with
 | .USub => asI a fun x => some (.int (-x))
 | .Invert => asI a fun x => some (.int (Builtin.bitNot x))
 | .Not => ob1 (truthM a H) fun b => some (.bool !b)
 | .UAdd => none
noncomputable def eq0 (a b : AV) : Option Bool := alt (asI a fun x => asI b fun y => some (eqI x y)) <| alt (asF a fun x => asF b fun y => gd (Fl.eq x y) (some true)) <| asS a fun x => asS b fun y => some (eqL x y)
noncomputable def eqs (f : AV → AV → Option Bool) : List AV → List AV → Option Bool
 | [], ys => tk0 ys (some true)
 | x :: r, ys => tkc ys fun y t => ob1 (f x y) fun a => ob1 (eqs f r t) fun b => some (a && b)
noncomputable def eqT (f : AV → AV → Option Bool) (a b : AV) : Option Bool := asT a fun x => asT b fun y => gd (smallL x && smallL y && Nat.beq x.length y.length) <| eqs f x y
noncomputable def eq1 (a b : AV) : Option Bool := alt (eqT eq0 a b) (eq0 a b)
noncomputable def eqM (a b : AV) (H : St) : Option Bool := alt (asL H a fun _ xs => asL H b fun _ ys => gd (smallL xs && smallL ys) <| cond (Nat.beq xs.length ys.length) (eqs eq0 xs ys) (some false)) <|
 alt (asF a fun x => asF b fun y => some (Fl.eq x y)) <| alt (eqT eq1 a b) <| eq0 a b
noncomputable def cmpM (op : CmpOp) (a b : AV) (H : St) : Option Bool := match op with
 | .Eq => eqM a b H
 | .NotEq => ob1 (eqM a b H) fun t => some !t
 | .Lt => alt (asI a fun x => asI b fun y => some (ltI x y)) <| alt (asF a fun x => asF b fun y => some (Fl.lt x y)) <| asB a fun x => asB b fun y => some (!x && y)
 | .LtE => alt (asI a fun x => asI b fun y => some (leI x y)) <| asF a fun x => asF b fun y => some (Fl.le x y)
 | .Gt => asI a fun x => asI b fun y => some (ltI y x)
 | .GtE => asI a fun x => asI b fun y => some (leI y x)
 | .Is => alt (asN b (alt (asN a (some true)) (alt (asI a fun _ => some false) (asC a (some false))))) <| asB a fun x => asB b fun y => some (x == y)
 | .IsNot => asB a fun x => asB b fun y => some (x != y)
 | .In => asI a fun x => asLI H b fun ns => gd (smallL ns) <| some (ns.any (eqI x))
 | .NotIn => asS a fun x => asS b fun y => gd (!x.isEmpty) <| some (!isIn x y)
noncomputable def bitL (n : Nat) : Nat := cond (Nat.beq n 0) 0 (Nat.log2 n + 1)
noncomputable def insI (x : Int) : List Int → List Int
 | [] => [x]
 | y :: r => cond (leI x y) (x :: y :: r) (y :: insI x r)
noncomputable def sortI : List Int → List Int
 | [] => []
 | x :: r => insI x (sortI r)
noncomputable def rangeN (a b c : Int) : Nat := (Builtin.Range.rangeSize a b c).toNat
noncomputable def rangeL (a b c : Int) : List Int := (List.range (rangeN a b c)).map fun (k : Nat) => a + (k : Int) * c
noncomputable def bfM (f : BF) (vs : List AV) (H : St) : Option (AV × St) := match f with
 | .len => tk1 vs fun a => alt (asS a fun s => gd (smallL s) <| some (.int s.length, H)) <| alt (asT a fun s => gd (smallL s) <| some (.int s.length, H)) <| asL H a fun _ s => gd (smallL s) <| some (.int s.length, H)
 | .sum => tk1 vs fun a => asLI H a fun ns => gd (smallL ns && ns.all smallI) <| some (.int ns.sum, H)
 | .list => tk1 vs fun v => alt (asG v fun a b c => gd (smallI a && smallI b && smallI c && !eqI c 0 && Nat.blt (rangeN a b c) 1000) <| newL H ((rangeL a b c).map .int)) <|
   asS v fun s => gd (smallL s) <| newL H (s.map fun c => .str [c])
 | .tuple => tk1 vs fun a => asL H a fun _ xs => gd (smallL xs) <| some (.tup xs, H)
 | .sorted => tk1 vs fun a => asLI H a fun ns => gd (Nat.blt ns.length 64) <| newL H ((sortI ns).map .int)
 | .divmod => tk2 vs fun a b => asI a fun x => asI b fun y => gd (smallI x && (smallI y && !eqI y 0)) <| some (.tup [.int (Int.fdiv x y), .int (Int.fmod x y)], H)
 | .max => tk3 vs fun a b c => asF a fun x => asF b fun y => asF c fun z => some (.flt (cond (Fl.gt z (cond (Fl.gt y x) y x)) z (cond (Fl.gt y x) y x)), H)
 | .min => tk3 vs fun a b c => asF a fun x => asF b fun y => asF c fun z => some (.flt (cond (Fl.lt z (cond (Fl.lt y x) y x)) z (cond (Fl.lt y x) y x)), H)
 | .int => tk1 vs fun a => asF a fun x => ob1 (Fl.trunc x) fun i => some (.int i, H)
 | .chr => tk1 vs fun a => asI a fun i => gd (leI 0 i && leI i 1114111) <| some (.str [i.toNat], H)
 | .range => alt (tk1 vs fun b => asI b fun b => gd (smallI b) <| some (.rng 0 b 1, H)) <| alt (tk2 vs fun a b => asI a fun a => asI b fun b => gd (smallI a && smallI b) <| some (.rng a b 1, H)) <|
   tk3 vs fun a b c => asI a fun a => asI b fun b => asI c fun c => gd (smallI a && smallI b && smallI c && !eqI c 0) <| some (.rng a b c, H)
noncomputable def findIx {α : Type} (p : α → Bool) : List α → Nat → Option Nat
 | [], _ => none
 | x :: r, k => cond (p x) (some k) (findIx p r (k + 1))
noncomputable def setM (b : Nat) (H : St) (o : AV) (f : List AV → Option (List AV)) : Option (AV × St) := asL H o fun i xs => gd (Nat.ble b i && smallL xs) <| ob1 (f xs) fun ys => some (.none, setN (.lst ys) H i)
noncomputable def mfM (f : MF) (o : AV) (vs : List AV) (b : Nat) (H : St) : Option (AV × St) := match f with
 | .split => asS o fun s => tk1 vs fun w => asS w fun w => gd (smallL s && (smallL w && (!w.isEmpty && w.all fun c => Nat.blt c 256))) <| newL H ((splitL w s.length [] s).map .str)
 | .startswith => asS o fun s => tk1 vs fun w => asS w fun w => some (.bool (pre w s), H)
 | .endswith => asS o fun s => tk1 vs fun w => asS w fun w => some (.bool (pre w.reverse s.reverse), H)
 | .find => asS o fun s => tk3 vs fun w x y => asS w fun w => asI x fun x => asI y fun y => gd (smallL s && (leI 0 x && (leI x y && leI y s.length))) <|
   some (.int (match findL s w x.toNat y.toNat with | some k => k | none => -1), H)
 | .bitLength => asI o fun x => tk0 vs <| gd (smallI x) <| some (.int (bitL x.natAbs), H)
 | .append => tk1 vs fun v => setM b H o fun xs => some (xs ++ [v])
 | .reverse => tk0 vs <| setM b H o fun xs => some xs.reverse
 | .insert => tk2 vs fun k v => asI k fun k => setM b H o fun xs => gd (leI 0 k && leI k xs.length) <| some (xs.take k.toNat ++ v :: xs.drop k.toNat)
 | .index => tk1 vs fun w => alt (asI w fun k => asLI H o fun ns => gd (smallL ns) <| ob1 (findIx (fun x => eqI x k) ns 0) fun k => some (.int (k : Nat), H)) <|
   asS w fun w => asLS H o fun ns => gd (smallL ns) <| ob1 (findIx (fun x => eqL x w) ns 0) fun k => some (.int (k : Nat), H)
 | .join => asS o fun s => tk1 vs fun w => asLS H w fun ss => gd (Nat.ble (ss.foldl (fun a x => a + x.length + s.length) 0) 1000000) <| some (.str (joinL s ss), H)
noncomputable def isStr (u : AV) : Option Unit := asS u fun _ => some ()
noncomputable def isLst (H : St) (u : AV) : Option Unit := asL H u fun _ _ => some ()
noncomputable def recvM (f : MF) (u : AV) (H : St) : Option Unit := match f with
 | .bitLength => asI u fun _ => some ()
 | .append => isLst H u
 | .reverse => isLst H u
 | .insert => isLst H u
 | .index => isLst H u
 | _ => isStr u
noncomputable def idxM (o i : AV) (H : St) : Option AV := asI i fun k => gd (smallI k) <| alt (asL H o fun _ xs => gd (smallL xs) <| ob1 (ixOf k xs.length) (nth xs)) <|
 alt (asT o fun xs => gd (smallL xs) <| ob1 (ixOf k xs.length) (nth xs)) <| asS o fun s => gd (smallL s) <| ob1 (ixOf k s.length) fun j => ob1 (nth s j) fun c => some (.str [c])
noncomputable def partM (o : Option AV) : Option (Option Int) := match o with
 | none => some none
 | some v => asI v fun i => gd (smallI i) <| some (some i)
noncomputable def sliceIx (n : Nat) (lo hi st : Option Int) : List Nat := sliceRange (sliceBounds lo hi st n).1 (sliceBounds lo hi st n).2.1 (sliceBounds lo hi st n).2.2
noncomputable def sliceS (s : List Nat) (lo hi st : Option Int) : List Nat := cond (eqI (st.getD 1) 1 && Nat.beq (sliceIx s.length lo hi st).length s.length) s ((sliceIx s.length lo hi st).filterMap (nth s))
noncomputable def sliceN (n : Nat) (lo hi st : Option Int) : Nat := Builtin.Slice.slicePlaces (Builtin.Slice.sliceAdjust lo hi (st.getD 1) n).1 (Builtin.Slice.sliceAdjust lo hi (st.getD 1) n).2 (st.getD 1)
noncomputable def sliceT (xs : List AV) (lo hi st : Option Int) : List AV := cond (eqI (Builtin.Slice.sliceAdjust lo hi (st.getD 1) xs.length).1 0 && eqI (st.getD 1) 1 && Nat.beq (sliceN xs.length lo hi st) xs.length) xs
 ((List.range (sliceN xs.length lo hi st)).filterMap fun (k : Nat) => nth xs ((Builtin.Slice.sliceAdjust lo hi (st.getD 1) xs.length).1 + (k : Int) * st.getD 1).toNat)
noncomputable def slcM (o : AV) (lo hi st : Option Int) (H : St) : Option (AV × St) := gd (!eqI (st.getD 1) 0) <| alt (asL H o fun _ xs => gd (smallL xs) <| newL H (sliceL xs lo hi st)) <|
 alt (asZ o fun xs => gd (smallL xs) <| newL H (sliceL xs lo hi st)) <| alt (asT o fun xs => gd (smallL xs && Nat.ble (sliceN xs.length lo hi st) 1000000) <| some (.tup (sliceT xs lo hi st), H)) <|
 asS o fun s => gd (smallL (sliceS s lo hi st)) <| some (.str (sliceS s lo hi st), H)
inductive Src where
 | lst (i : Nat)
 | tup (xs : List AV)
 | rng (a b c : Int)
 | en (s : Src)
 | zp (s t : Src)
 | rv (i n : Nat)
noncomputable def srcO (v : AV) (H : St) : Option Src := alt (asL H v fun i _ => some (.lst i)) <| asT v fun xs => some (.tup xs)
noncomputable def srcOf (v : AV) (H : St) : Option Src := alt (srcO v H) <| asG v fun a b c => gd (smallI a && smallI b && smallI c && !eqI c 0) <| some (.rng a b c)
noncomputable def srcAt (H : St) : Src → Nat → Option (Option AV)
 | .lst i, k => ob1 (getLst H i) fun xs => gd (smallL xs) <| some (nth xs k)
 | .tup xs, k => gd (smallL xs) <| some (nth xs k)
 | .rng a b c, k => some (cond (Nat.blt k (rangeN a b c)) (some (.int (a + k * c))) none)
 | .en s, k => ob1 (srcAt H s k) fun v => some (ob1 v fun v => some (.tup [.int k, v]))
 | .zp s t, k => ob1 (srcAt H s k) fun v => match v with
  | some v => ob1 (srcAt H t k) fun w => some (ob1 w fun w => some (.tup [v, w]))
  | none => some none
 | .rv i n, k => cond (Nat.blt k n) (ob1 (getLst H i) fun xs => gd (smallL xs) <| ob1 (nth xs (n - 1 - k)) fun v => some (some v)) (some none)
inductive RF where
 | nx
 | rt (v : AV)
structure Lvl where
 ev : X → Lo → Ce → Nat → St → Option (AV × St)
 tv : X → Lo → Ce → Nat → St → Option (Bool × St)
 ex : List S → Lo → Ce → Nat → St → Option (RF × Lo × St)
 cl : Nat → List AV → List (Nat × AV) → Nat → St → Option (AV × St)
 vc : AV → List AV → Nat → St → Option (AV × St)
noncomputable def obX {γ : Type} (o : Option (RF × Lo × St)) (f : Lo → St → Option γ) (g : AV → Lo → St → Option γ) : Option γ := match o with
 | some (.nx, lo, H) => f lo H
 | some (.rt v, lo, H) => g v lo H
 | none => none
noncomputable def obB {γ : Type} (o : Option (Bool × St)) (f g : St → Option γ) : Option γ := ob2 o fun b H => cond b (f H) (g H)
noncomputable def isCell (o : AO) : Bool := match o with
 | .cell _ => true
 | _ => false
noncomputable def storeM (k : Nat) (v : AV) (lo : Lo) (ce : Ce) (b : Nat) (H : St) : Option (Lo × St) := match lkp k ce with
 | some i => ob1 (nth H i) fun o => gd (Nat.ble b i && isCell o) <| some (lo, setN (.cell (some v)) H i)
 | none => some (setL k v lo, H)
noncomputable def storesM : List (Nat × Pos) → List AV → Lo → Ce → Nat → St → Option (Lo × St)
 | [], vs, lo, _, _, H => tk0 vs <| some (lo, H)
 | k :: r, vs, lo, ce, b, H => tkc vs fun v vs => ob2 (storeM k.1 v lo ce b H) fun lo H => storesM r vs lo ce b H
noncomputable def asgM (t : Tg) (v : AV) (lo : Lo) (ce : Ce) (b : Nat) (H : St) : Option (Lo × St) := match t with
 | .name k _ => storeM k v lo ce b H
 | .tup ks _ => asT v fun xs => storesM ks xs lo ce b H
noncomputable def evs (f : X → St → Option (AV × St)) : List X → St → Option (List AV × St)
 | [], H => some ([], H)
 | x :: r, H => ob2 (f x H) fun v H => ob2 (evs f r H) fun vs H => some (v :: vs, H)
noncomputable def evo (f : X → St → Option (AV × St)) (o : Xo) (H : St) : Option (Option Int × St) := match o with
 | .no => some (none, H)
 | .so x => ob2 (f x H) fun v H => asI v fun i => gd (smallI i) <| some (some i, H)
noncomputable def evk (f : X → St → Option (AV × St)) : List Kw → St → Option (List (Nat × AV) × St)
 | [], H => some ([], H)
 | .mk k x _ :: r, H => ob2 (f x H) fun v H => ob2 (evk f r H) fun vs H => some ((k, v) :: vs, H)
noncomputable def allT (f : X → St → Option (Bool × St)) (stop : Bool) : List X → St → Option (Bool × St)
 | [], H => some (!stop, H)
 | x :: r, H => ob2 (f x H) fun b H => cond (b == stop) (some (stop, H)) (allT f stop r H)
noncomputable def bopV (f : X → St → Option (AV × St)) (stop : Bool) : List X → St → Option (AV × St)
 | [], _ => none
 | [x], H => f x H
 | x :: y :: r, H => ob2 (f x H) fun v H => ob1 (truthM v H) fun b => cond (b == stop) (some (v, H)) (bopV f stop (y :: r) H)
noncomputable def itM (f : X → St → Option (AV × St)) (it : It) (H : St) : Option (Src × St) := match it with
 | .pl x => ob2 (f x H) fun v H => ob1 (srcOf v H) fun s => some (s, H)
 | .en x _ _ => ob2 (f x H) fun v H => ob1 (srcO v H) fun s => some (.en s, H)
 | .zp x y _ _ => ob2 (f x H) fun v H => ob2 (f y H) fun w H => ob1 (srcO v H) fun s => ob1 (srcO w H) fun t => some (.zp s t, H)
 | .rv x _ _ => ob2 (f x H) fun v H => asL H v fun i xs => gd (smallL xs) <| some (.rv i xs.length, H)
noncomputable def turns {α : Type} (H0 : α → St) (f : AV → α → Option (α × Bool)) (s : Src) : Nat → Nat → α → Option α
 | 0, _, _ => none
 | c + 1, k, a => ob1 (srcAt (H0 a) s k) fun v => match v with
  | some v => ob2 (f v a) fun a go => cond go (turns H0 f s c (k + 1) a) (some a)
  | none => some a
noncomputable def MAXT : Nat := 100
noncomputable def tests (f : X → Lo → St → Option (Bool × St)) (lo : Lo) : List X → St → Option (Bool × St)
 | [], H => some (true, H)
 | x :: r, H => obB (f x lo H) (tests f lo r) fun H => some (false, H)
noncomputable def clauses (ev : X → Lo → St → Option (AV × St)) (tv : X → Lo → St → Option (Bool × St)) (ce : Ce) (b : Nat) (emit : Lo → St → Option St) : List G → Option Src → Lo × St → Option (Lo × St)
 | [], _, (lo, H) => ob1 (emit lo H) fun H => some (lo, H)
 | .mk t it ifs :: gs, src, (lo, H) => ob2 (match src with | some s => some (s, H) | none => itM (fun x H => ev x lo H) it H) fun s H => turns (·.2) (fun v (a : Lo × St) => ob2 (asgM t v a.1 ce b a.2) fun lo H =>
   obB (tests tv lo ifs H) (fun H => ob1 (clauses ev tv ce b emit gs none (lo, H)) fun a => some (a, true)) fun H => some ((lo, H), true)) s MAXT 0 (lo, H)
noncomputable def freeC (kd : List (Nat × K3)) (ce : Ce) : Ce := ce.filter fun x => kd.any fun y => Nat.beq y.1 x.1 && (y.2 == .fre)
noncomputable def compM (L : Lvl) (elt : X) (gs : List G) (kd : List (Nat × K3)) (lo : Lo) (ce : Ce) (b : Nat) (H : St) : Option (AV × St) := match gs with
 | [] => none
 | .mk t it ifs :: gs => ob2 (itM (fun x H => L.ev x lo ce b H) it H) fun s H => gd (Nat.ble b H.length) <|
  ob2 (clauses (fun x lo K => L.ev x lo (freeC kd ce) b K) (fun x lo K => L.tv x lo (freeC kd ce) b K) (freeC kd ce) b (fun lo K => ob2 (L.ev elt lo (freeC kd ce) b K) fun v K =>
   ob1 (getLst K H.length) fun xs => gd (smallL xs) <| some (setN (.lst (xs ++ [v])) K H.length)) (.mk t it ifs :: gs) (some s) ([], H ++ [.lst []])) fun _ K => some (.ref H.length, K)
noncomputable def keysM (f : AV → St → Option (AV × St)) : List AV → St → Option (List AV × St)
 | [], H => some ([], H)
 | x :: r, H => ob2 (f x H) fun k H => ob2 (keysM f r H) fun t H => some (k :: t, H)
noncomputable def keyInts (H : St) : List AV → Option (List (List Int))
 | [] => some []
 | v :: r => asLI H v fun ns => ob1 (keyInts H r) fun t => some (ns :: t)
noncomputable def ltK : List Int → List Int → Bool
 | [], [] => false
 | [], _ :: _ => true
 | _ :: _, [] => false
 | a :: r, b :: t => cond (eqI a b) (ltK r t) (ltI a b)
noncomputable def runK {α : Type} (c : Nat → Nat → Option Bool) : PySem.W.KasT α → Option α
 | .ret a => some a
 | .ask i j k => ob1 (c i j) fun b => runK c (k b)
noncomputable def askK (ks : List (List Int)) (i j : Nat) : Option Bool := ob1 (nth ks i) fun a => ob1 (nth ks j) fun b => some (ltK a b)
noncomputable def pickK (xs : List AV) : List Nat → Option (List AV)
 | [] => some []
 | i :: r => ob1 (nth xs i) fun x => ob1 (pickK xs r) fun t => some (x :: t)
noncomputable def sortK (ks : List (List Int)) (xs : List AV) : Option (List AV) := gd (Nat.ble 2 xs.length) <| ob1 (runK (askK ks) (PySem.W.kas_sort xs.length)) fun p => pickK xs p.toList
noncomputable def isClo : AV → Bool
 | .cloX .. => true
 | .cloS .. => true
 | _ => false
noncomputable def varM (k : Nat) (lo : Lo) (ce : Ce) (H : St) : Option AV := match lkp k ce with
 | some i => getCell H i
 | none => lkp k lo
noncomputable def evS (L : Lvl) (x : X) (lo : Lo) (ce : Ce) (b : Nat) (H : St) : Option (AV × St) := match x with
 | .cst _ v _ => some (v.av, H)
 | .var k _ => ob1 (varM k lo ce H) fun v => some (v, H)
 | .gcon _ v _ => some (v.av, H)
 | .bin l op r _ => ob2 (L.ev l lo ce b H) fun u H => ob2 (L.ev r lo ce b H) fun v H => binM op u v H
 | .un op x _ => ob2 (L.ev x lo ce b H) fun v H => ob1 (unM op v H) fun v => some (v, H)
 | .bop .And xs _ => bopV (fun x H => L.ev x lo ce b H) false xs H
 | .bop .Or xs _ => bopV (fun x H => L.ev x lo ce b H) true xs H
 | .cmp l op r _ => ob2 (L.ev l lo ce b H) fun u H => ob2 (L.ev r lo ce b H) fun v H => ob1 (cmpM op u v H) fun t => some (.bool t, H)
 | .cmp2 l op m op2 r _ => ob2 (L.ev l lo ce b H) fun u H => ob2 (L.ev m lo ce b H) fun v H => ob1 (cmpM op u v H) fun t =>
   cond t (ob2 (L.ev r lo ce b H) fun w H => ob1 (cmpM op2 v w H) fun t => some (.bool t, H)) (some (.bool false, H))
 | .ite c t e _ => obB (L.tv c lo ce b H) (fun H => L.ev t lo ce b H) fun H => L.ev e lo ce b H
 | .tupl xs _ => ob2 (evs (fun x H => L.ev x lo ce b H) xs H) fun vs H => gd (smallL vs) <| some (.tup vs, H)
 | .list xs _ => ob2 (evs (fun x H => L.ev x lo ce b H) xs H) fun vs H => gd (smallL vs) <| newL H vs
 | .idx o i _ => ob2 (L.ev o lo ce b H) fun u H => ob2 (L.ev i lo ce b H) fun v H => ob1 (idxM u v H) fun v => some (v, H)
 | .slc o l h s _ _ => ob2 (L.ev o lo ce b H) fun u H => ob2 (evo (fun x H => L.ev x lo ce b H) l H) fun l H => ob2 (evo (fun x H => L.ev x lo ce b H) h H) fun h H =>
   ob2 (evo (fun x H => L.ev x lo ce b H) s H) fun s H => slcM u l h s H
 | .gcall f _ args kw _ _ => ob2 (evs (fun x H => L.ev x lo ce b H) args H) fun vs H => ob2 (evk (fun x H => L.ev x lo ce b H) kw H) fun ks H => L.cl f vs ks b H
 | .bcall f args _ _ => ob2 (evs (fun x H => L.ev x lo ce b H) args H) fun vs H => bfM f vs H
 | .sortk a key _ _ _ => ob2 (L.ev a lo ce b H) fun u H => asG u fun p q r => gd (smallI p && smallI q && smallI r && !eqI r 0 && Nat.blt (rangeN p q r) 64) <| ob2 (L.ev key lo ce b H) fun f H => gd (isClo f) <|
   ob2 (keysM (fun x H => L.vc f [x] b H) ((rangeL p q r).map .int) H) fun ks H => ob1 (keyInts H ks) fun ns => ob1 (sortK ns ((rangeL p q r).map .int)) fun out => newL H out
 | .mcall m o args _ _ => ob2 (L.ev o lo ce b H) fun u H => ob1 (recvM m u H) fun _ => ob2 (evs (fun x H => L.ev x lo ce b H) args H) fun vs H => mfM m u vs b H
 | .vcall k args _ _ => ob1 (varM k lo ce H) fun f => gd (isClo f) <| ob2 (evs (fun x H => L.ev x lo ce b H) args H) fun vs H => L.vc f vs b H
 | .comp elt gs kd _ => compM L elt gs kd lo ce b H
 | .lam ps body kd mo _ => some (.cloX ps body kd mo (freeC kd ce), H)
 | .raw _ => none
noncomputable def tvS (L : Lvl) (x : X) (lo : Lo) (ce : Ce) (b : Nat) (H : St) : Option (Bool × St) := match x with
 | .un .Not x _ => ob2 (L.tv x lo ce b H) fun t H => some (!t, H)
 | .bop .And xs _ => allT (fun x H => L.tv x lo ce b H) false xs H
 | .bop .Or xs _ => allT (fun x H => L.tv x lo ce b H) true xs H
 | .ite .. => none
 | .cmp l op r _ => ob2 (L.ev l lo ce b H) fun u H => ob2 (L.ev r lo ce b H) fun v H => ob1 (cmpM op u v H) fun t => some (t, H)
 | .cmp2 l op m op2 r _ => ob2 (L.ev l lo ce b H) fun u H => ob2 (L.ev m lo ce b H) fun v H => ob1 (cmpM op u v H) fun t =>
   cond t (ob2 (L.ev r lo ce b H) fun w H => ob1 (cmpM op2 v w H) fun t => some (t, H)) (some (false, H))
 | x => ob2 (L.ev x lo ce b H) fun v H => ob1 (truthM v H) fun t => some (t, H)
noncomputable def nxM (o : Option (Lo × St)) : Option (RF × Lo × St) := ob2 o fun lo H => some (.nx, lo, H)
noncomputable def whilM (L : Lvl) (c : X) (body : List S) (ce : Ce) (b : Nat) : Nat → Lo → St → Option (RF × Lo × St)
 | 0, _, _ => none
 | n + 1, lo, H => obB (L.tv c lo ce b H) (fun H => obX (L.ex body lo ce b H) (whilM L c body ce b n) fun v lo H => some (.rt v, lo, H)) fun H => some (.nx, lo, H)
noncomputable def setIM (b : Nat) (H : St) (o : AV) (f : List AV → Option (List AV)) : Option St := ob2 (setM b H o f) fun _ H => some H
noncomputable def ex1 (L : Lvl) (s : S) (lo : Lo) (ce : Ce) (b : Nat) (H : St) : Option (RF × Lo × St) := match s with
 | .asg t e _ => ob2 (L.ev e lo ce b H) fun v H => nxM (asgM t v lo ce b H)
 | .asw ks _ xs _ _ => ob2 (evs (fun x H => L.ev x lo ce b H) xs H) fun vs H => nxM (storesM ks.reverse vs.reverse lo [] b H)
 | .asc k _ e _ => match e with
  | .comp elt gs kd _ => ob2 (compM L elt gs kd lo ce b H) fun v H => some (.nx, setL k v lo, H)
  | _ => none
 | .aug k _ op e _ => ob1 (lkp k lo) fun u => asI u fun x => ob2 (L.ev e lo ce b H) fun v H => asI v fun y => match op with
  | .Add => some (.nx, setL k (.int (x + y)) lo, H)
  | .Sub => some (.nx, setL k (.int (x - y)) lo, H)
  | _ => none
 | .seti o i _ e _ => ob2 (L.ev e lo ce b H) fun v H => ob2 (L.ev o lo ce b H) fun u H => ob2 (L.ev i lo ce b H) fun w H => asI w fun k =>
   ob2 (setM b H u fun xs => gd (leI 0 k && ltI k xs.length) <| some (setN v xs k.toNat)) fun _ H => some (.nx, lo, H)
 | .deli o i _ _ => ob2 (L.ev o lo ce b H) fun u H => ob2 (L.ev i lo ce b H) fun w H => asI w fun k => ob2 (setM b H u fun xs => gd (smallI k) <| ob1 (ixOf k xs.length) fun n => some (xs.eraseIdx n)) fun _ H => some (.nx, lo, H)
 | .ifs c t e _ => obB (L.tv c lo ce b H) (fun H => L.ex t lo ce b H) fun H => L.ex e lo ce b H
 | .fors t it body _ => ob2 (itM (fun x H => L.ev x lo ce b H) it H) fun s H => turns (·.2.2) (fun v (a : RF × Lo × St) => ob2 (asgM t v a.2.1 ce b a.2.2) fun lo H =>
   obX (L.ex body lo ce b H) (fun lo H => some ((.nx, lo, H), true)) fun v lo H => some ((.rt v, lo, H), false)) s MAXT 0 (.nx, lo, H)
 | .whil c body _ => whilM L c body ce b MAXT lo H
 | .ret e _ => ob2 (L.ev e lo ce b H) fun v H => some (.rt v, lo, H)
 | .retn _ => some (.rt .none, lo, H)
 | .asrt c _ => obB (L.tv c lo ce b H) (fun H => some (.nx, lo, H)) fun _ => none
 | .expm m o args ap cp _ => ob2 (L.ev (.mcall m o args ap cp) lo ce b H) fun v H => asN v <| some (.nx, lo, H)
 | .expc e _ => ob2 (L.ev e lo ce b H) fun v H => asN v <| some (.nx, lo, H)
 | .defn k ps body kd mo _ => nxM (storeM k (.cloS ps body kd mo (freeC kd ce)) lo ce b H)
 | .tryd d => ob2 (L.ev d.a lo ce b H) fun u H => asI u fun x => ob2 (L.ev d.b lo ce b H) fun v H => asI v fun y =>
   cond (eqI y 0) (ob2 (L.ev d.e1 lo ce b H) fun u H => ob2 (L.ev d.e2 lo ce b H) fun v H => some (.rt (.tup [u, v, .str []]), lo, H))
    (ob2 (L.cl d.f [.int x, .int y] [] b H) fun v H => nxM (asgM (.tup [d.q, d.r] d.tp) v lo ce b H))
 | .raw _ => none
noncomputable def exS (L : Lvl) : List S → Lo → Ce → Nat → St → Option (RF × Lo × St)
 | [], lo, _, _, H => some (.nx, lo, H)
 | s :: r, lo, ce, b, H => obX (ex1 L s lo ce b H) (fun lo H => exS L r lo ce b H) fun v lo H => some (.rt v, lo, H)
noncomputable def bindM (f : Fn) (vs : List AV) (ks : List (Nat × AV)) : Option (List (Nat × AV)) := cond f.ko.isEmpty (gd (ks.isEmpty && (f.df.isEmpty && Nat.beq f.ps.length vs.length)) <| some ((f.ps.map (·.1)).zip vs)) <| match ks with
 | [k] => gd (Nat.beq k.1 46) <| alt (tk2 vs fun a x => some [(9, a), (26, x), (44, .int 0), (45, .none), (46, k.2)]) <|
   tkc vs fun a vs => tk3 vs fun x l h => some [(9, a), (26, x), (44, l), (45, h), (46, k.2)]
 | _ => none
noncomputable def cellsM : List (Nat × K3) → Ce → St → Ce × St
 | [], ce, H => (ce, H)
 | x :: r, ce, H => cond (x.2 == .cel) (cellsM r ((x.1, H.length) :: ce) (H ++ [.cell none])) (cellsM r ce H)
noncomputable def storeAll : List (Nat × AV) → Lo → Ce → Nat → St → Option (Lo × St)
 | [], lo, _, _, H => some (lo, H)
 | x :: r, lo, ce, b, H => ob2 (storeM x.1 x.2 lo ce b H) fun lo H => storeAll r lo ce b H
noncomputable def runS (L : Lvl) (kd : List (Nat × K3)) (binds : List (Nat × AV)) (body : List S) (ce : Ce) (b : Nat) (H : St) : Option (AV × St) :=
 ob2 (storeAll binds [] (cellsM kd ce H).1 b (cellsM kd ce H).2) fun lo K => obX (L.ex body lo (cellsM kd ce H).1 b K) (fun _ H => some (.none, H)) fun v _ H => some (v, H)
noncomputable def clS (P : List Fn) (L : Lvl) (f : Nat) (vs : List AV) (ks : List (Nat × AV)) (b : Nat) (H : St) : Option (AV × St) := ob1 (nth P f) fun fn => ob1 (bindM fn vs ks) fun binds =>
 cond fn.pure (ob2 (runS L fn.kd binds fn.body [] H.length H) fun v K => ob1 (home H.length K v) fun x => some (x.1, H ++ x.2.2)) (runS L fn.kd binds fn.body [] b H)
noncomputable def vcS (L : Lvl) (f : AV) (vs : List AV) (b : Nat) (H : St) : Option (AV × St) := match f with
 | .cloX ps body _ _ cs => gd (Nat.beq ps.length vs.length) <| ob2 (storeAll ((ps.map (·.1)).zip vs) [] cs b H) fun lo H => L.ev body lo cs b H
 | .cloS ps body _ _ cs => gd (Nat.beq ps.length vs.length) <| runS L [] ((ps.map (·.1)).zip vs) body cs b H
 | _ => none
noncomputable def lvl (P : List Fn) : Nat → Lvl
 | 0 => ⟨fun _ _ _ _ _ => none, fun _ _ _ _ _ => none, fun _ _ _ _ _ => none, fun _ _ _ _ _ => none, fun _ _ _ _ => none⟩
 | n + 1 => ⟨evS (lvl P n), tvS (lvl P n), exS (lvl P n), clS P (lvl P n), vcS (lvl P n)⟩
noncomputable def fast (s : String) : Str × Const := (Str.ofString "fast", .str (Str.ofString s))
noncomputable def nmL : List Str := "want"::"got"::"ELLIPSIS_MARKER"::"ws"::"startpos"::"endpos"::"w"::"_ellipsis_match"::"len"::"a"::"b"::"n"::"_DIV_LIMIT"::"pad"::"half_n"::"mask"::"b1"::"b2"::"q1"::"r"::"q2"::"_div2n1n"::"divmod"::"_div3n2n"::"a_digits"::"inner"::"x"::"L"::"R"::"mid"::"shift"::"upper"::"lower"::"_int2digits"::"digits"::"_digits2int"::"q_digits"::"a_digit"::"q_digit"::"q"::"_divmod_pos"::"reversed"::"int_divmod"::"ZeroDivisionError"::"lo"::"hi"::"key"::"bisect_right"::"insort_right"::"ValueError"::"bisect_left"::"g"::"maxc"::"minc"::"sumc"::"rangec"::"l"::"s"::"rc"::"gc"::"bc"::"h"::"rgb_to_hls"::"max"::"min"::"v"::"rgb_to_hsv"::"i"::"f"::"p"::"t"::"hsv_to_rgb"::"int"::"script"::"firsts"::"heads"::"number"::".0"::"place"::"first"::"sum"::"_law_cells"::"enumerate"::"size"::"step"::"quotients"::"rests"::"division"::"quotient"::"rest"::"error"::"_law_run"::"range"::"str"::"worths"::"_law_worths"::"grown"::"letter"::"figures"::"row"::"text"::"figure"::"barred"::"pair"::"_law_numerals"::"chr"::"numbers"::"_law_sum"::"zip"::"_law_by_turns"::"worth"::"_law_figures"::"tuple"::"least"::"few"::"_law_as_great"::"cells"::"share"::"value"::"words"::"rows"::"names"::"hues"::"red"::"green"::"blue"::"told"::"hue"::"wheel"::"spot"::"cut"::"ring"::"one"::"other"::"front"::"end"::"core"::"behind"::"low"::"high"::"arc"::"turned"::"wants"::"name"::"both"::"held"::"great"::"dues"::"due"::"law"::"list"::"sorted"::[]
-- 0:want 1:got 2:ELLIPSIS_MARKER 3:ws 4:startpos 5:endpos 6:w 7:_ellipsis_match 8:len 9:a 10:b 11:n 12:_DIV_LIMIT 13:pad 14:half_n 15:mask 16:b1 17:b2 18:q1 19:r 20:q2 21:_div2n1n 22:divmod 23:_div3n2n 24:a_digits 25:inner 26:x 27:L 28:R 29:mid 30:shift 31:upper 32:lower 33:_int2digits 34:digits 35:_digits2int 36:q_digits 37:a_digit 38:q_digit 39:q 40:_divmod_pos 41:reversed 42:int_divmod 43:ZeroDivisionError 44:lo 45:hi 46:key 47:bisect_right 48:insort_right 49:ValueError 50:bisect_left 51:g 52:maxc 53:minc 54:sumc 55:rangec 56:l 57:s 58:rc 59:gc 60:bc 61:h 62:rgb_to_hls 63:max 64:min 65:v 66:rgb_to_hsv 67:i 68:f 69:p 70:t 71:hsv_to_rgb 72:int 73:script 74:firsts 75:heads 76:number 77:.0 78:place 79:first 80:sum 81:_law_cells 82:enumerate 83:size 84:step 85:quotients 86:rests 87:division 88:quotient 89:rest 90:error 91:_law_run 92:range 93:str 94:worths 95:_law_worths 96:grown 97:letter 98:figures 99:row 100:text 101:figure 102:barred 103:pair 104:_law_numerals 105:chr 106:numbers 107:_law_sum 108:zip 109:_law_by_turns 110:worth 111:_law_figures 112:tuple 113:least 114:few 115:_law_as_great 116:cells 117:share 118:value 119:words 120:rows 121:names 122:hues 123:red 124:green 125:blue 126:told 127:hue 128:wheel 129:spot 130:cut 131:ring 132:one 133:other 134:front 135:end 136:core 137:behind 138:low 139:high 140:arc 141:turned 142:wants 143:name 144:both 145:held 146:great 147:dues 148:due 149:law 150:list 151:sorted
noncomputable def Zt1 : X := (.cmp (.gcall 0 7 [(.var 0 ⟨304,70,304,74⟩), (.var 143 ⟨304,76,304,80⟩)] [] ⟨304,54,304,69⟩ ⟨304,54,304,81⟩) .IsNot (.var 148 ⟨304,89,304,92⟩) ⟨304,54,304,92⟩)
noncomputable def Zt2 : Tg := (.tup [(0, ⟨304,21,304,25⟩), (148, ⟨304,27,304,30⟩)] ⟨304,21,304,30⟩)
noncomputable def Zt3 : It := (.zp (.var 142 ⟨304,38,304,43⟩) (.var 147 ⟨304,45,304,49⟩) ⟨304,34,304,37⟩ ⟨304,34,304,50⟩)
noncomputable def Zt4 : List X := [Zt1]
noncomputable def Zt5 : X := (.cmp (.var 101 ⟨256,57,256,63⟩) .Lt (.var 114 ⟨256,66,256,69⟩) ⟨256,57,256,69⟩)
noncomputable def Zt6 : X := (.gcall 0 7 [(.bin (.var 134 ⟨289,100,289,105⟩) .Add (.cst (.str "...") (.str [46,46,46]) ⟨289,108,289,113⟩) ⟨289,100,289,113⟩), (.idx (.var 121 ⟨289,115,289,120⟩) (.var 129 ⟨289,121,289,125⟩) ⟨289,115,289,126⟩)] [] ⟨289,84,289,99⟩ ⟨289,84,289,127⟩)
noncomputable def Zt7 : X := (.mcall .startswith (.idx (.var 121 ⟨292,40,292,45⟩) (.var 129 ⟨292,46,292,50⟩) ⟨292,40,292,51⟩) [(.var 134 ⟨292,63,292,68⟩)] ⟨292,40,292,62⟩ ⟨292,40,292,69⟩)
noncomputable def Zt8 : X := (.mcall .endswith (.idx (.var 121 ⟨295,40,295,45⟩) (.var 129 ⟨295,46,295,50⟩) ⟨295,40,295,51⟩) [(.var 135 ⟨295,61,295,64⟩)] ⟨295,40,295,60⟩ ⟨295,40,295,65⟩)
noncomputable def Zt9 : Tg := (.tup [(101, ⟨256,23,256,29⟩), (114, ⟨256,31,256,34⟩)] ⟨256,23,256,34⟩)
noncomputable def Zt10 : It := (.zp (.var 99 ⟨256,42,256,45⟩) (.var 113 ⟨256,47,256,52⟩) ⟨256,38,256,41⟩ ⟨256,38,256,53⟩)
noncomputable def Zt11 : List X := [Zt5]
noncomputable def Zt12 : X := (.un .Not Zt6 ⟨289,80,289,127⟩)
noncomputable def Zt13 : X := (.gcall 0 7 [(.bin (.cst (.str "...") (.str [46,46,46]) ⟨290,76,290,81⟩) .Add (.var 135 ⟨290,84,290,87⟩) ⟨290,76,290,87⟩), (.idx (.var 121 ⟨290,89,290,94⟩) (.var 129 ⟨290,95,290,99⟩) ⟨290,89,290,100⟩)] [] ⟨290,60,290,75⟩ ⟨290,60,290,101⟩)
noncomputable def Zt14 : X := (.un .Not (.gcall 0 7 [(.bin (.cst (.str "...") (.str [46,46,46]) ⟨291,86,291,91⟩) .Add (.var 135 ⟨291,94,291,97⟩) ⟨291,86,291,97⟩), (.idx (.var 121 ⟨291,99,291,104⟩) (.var 129 ⟨291,105,291,109⟩) ⟨291,99,291,110⟩)] [] ⟨291,70,291,85⟩ ⟨291,70,291,111⟩) ⟨291,66,291,111⟩)
noncomputable def Zt15 : It := (.pl (.bcall .range [(.var 83 ⟨292,31,292,35⟩)] ⟨292,25,292,30⟩ ⟨292,25,292,36⟩))
noncomputable def Zt16 : It := (.pl (.bcall .range [(.var 83 ⟨295,31,295,35⟩)] ⟨295,25,295,30⟩ ⟨295,25,295,36⟩))
noncomputable def Zt17 : Tg := (.tup [(78, ⟨220,55,220,60⟩), (79, ⟨220,62,220,67⟩)] ⟨220,55,220,67⟩)
noncomputable def Zt18 : It := (.en (.var 74 ⟨220,81,220,87⟩) ⟨220,71,220,80⟩ ⟨220,71,220,88⟩)
noncomputable def Zt19 : X := (.cmp (.var 44 ⟨126,14,126,16⟩) .Lt (.var 45 ⟨126,19,126,21⟩) ⟨126,14,126,21⟩)
noncomputable def Zt20 : List S := [ (.asg (.name 29 ⟨127,12,127,15⟩) (.bin (.bin (.var 44 ⟨127,19,127,21⟩) .Add (.var 45 ⟨127,24,127,26⟩) ⟨127,19,127,26⟩) .FloorDiv (.cst (.int 2) (.int 2) ⟨127,31,127,32⟩) ⟨127,18,127,32⟩) ⟨127,12,127,32⟩), (.ifs (.cmp (.var 26 ⟨128,15,128,16⟩) .Lt (.vcall 46 [(.idx (.var 9 ⟨128,23,128,24⟩) (.var 29 ⟨128,25,128,28⟩) ⟨128,23,128,29⟩)] ⟨128,19,128,22⟩ ⟨128,19,128,30⟩) ⟨128,15,128,30⟩) [ (.asg (.name 45 ⟨129,16,129,18⟩) (.var 29 ⟨129,21,129,24⟩) ⟨129,16,129,24⟩)] [ (.asg (.name 44 ⟨131,16,131,18⟩) (.bin (.var 29 ⟨131,21,131,24⟩) .Add (.cst (.int 1) (.int 1) ⟨131,27,131,28⟩) ⟨131,21,131,28⟩) ⟨131,16,131,28⟩)] ⟨128,12,131,28⟩)]
noncomputable def Zt21 : X := (.cmp (.var 44 ⟨146,14,146,16⟩) .Lt (.var 45 ⟨146,19,146,21⟩) ⟨146,14,146,21⟩)
noncomputable def Zt22 : List S := [ (.asg (.name 29 ⟨147,12,147,15⟩) (.bin (.bin (.var 44 ⟨147,19,147,21⟩) .Add (.var 45 ⟨147,24,147,26⟩) ⟨147,19,147,26⟩) .FloorDiv (.cst (.int 2) (.int 2) ⟨147,31,147,32⟩) ⟨147,18,147,32⟩) ⟨147,12,147,32⟩), (.ifs (.cmp (.vcall 46 [(.idx (.var 9 ⟨148,19,148,20⟩) (.var 29 ⟨148,21,148,24⟩) ⟨148,19,148,25⟩)] ⟨148,15,148,18⟩ ⟨148,15,148,26⟩) .Lt (.var 26 ⟨148,29,148,30⟩) ⟨148,15,148,30⟩) [ (.asg (.name 44 ⟨149,16,149,18⟩) (.bin (.var 29 ⟨149,21,149,24⟩) .Add (.cst (.int 1) (.int 1) ⟨149,27,149,28⟩) ⟨149,21,149,28⟩) ⟨149,16,149,28⟩)] [ (.asg (.name 45 ⟨151,16,151,18⟩) (.var 29 ⟨151,21,151,24⟩) ⟨151,16,151,24⟩)] ⟨148,12,151,24⟩)]
noncomputable def Zt23 : X := (.bin (.var 76 ⟨219,13,219,19⟩) .Mod (.cst (.int 1000000) (.int 1000000) ⟨219,22,219,29⟩) ⟨219,13,219,29⟩)
noncomputable def Zt24 : X := (.bin (.var 79 ⟨220,12,220,17⟩) .Add (.bcall .sum [(.slc (.var 75 ⟨220,24,220,29⟩) (.so (.var 78 ⟨220,30,220,35⟩)) .no (.so (.bcall .len [(.var 74 ⟨220,41,220,47⟩)] ⟨220,37,220,40⟩ ⟨220,37,220,48⟩)) ⟨220,30,220,48⟩ ⟨220,24,220,49⟩)] ⟨220,20,220,23⟩ ⟨220,20,220,50⟩) ⟨220,12,220,50⟩)
noncomputable def Zt25 : S := (.asg (.tup [(123, ⟨270,8,270,11⟩), (124, ⟨270,13,270,18⟩), (125, ⟨270,20,270,24⟩)] ⟨270,8,270,24⟩) (.gcall 11 71 [(.bin (.bin (.var 76 ⟨270,38,270,44⟩) .Mult (.var 84 ⟨270,47,270,51⟩) ⟨270,38,270,51⟩) .Div (.var 83 ⟨270,54,270,58⟩) ⟨270,38,270,58⟩), (.bin (.var 117 ⟨270,60,270,65⟩) .Div (.cst (.int 8) (.int 8) ⟨270,68,270,69⟩) ⟨270,60,270,69⟩), (.bin (.var 118 ⟨270,71,270,76⟩) .Div (.cst (.int 8) (.int 8) ⟨270,79,270,80⟩) ⟨270,71,270,80⟩)] [] ⟨270,27,270,37⟩ ⟨270,27,270,81⟩) ⟨270,8,270,81⟩)
noncomputable def Zt26 : S := (.asw [(126, ⟨271,8,271,12⟩), (127, ⟨271,14,271,17⟩)] ⟨271,8,271,17⟩ [(.gcall 10 66 [(.var 123 ⟨271,32,271,35⟩), (.var 124 ⟨271,37,271,42⟩), (.var 125 ⟨271,44,271,48⟩)] [] ⟨271,21,271,31⟩ ⟨271,21,271,49⟩), (.bin (.idx (.gcall 5 42 [(.gcall 16 107 [(.idx (.var 103 ⟨271,71,271,75⟩) (.cst (.int 0) (.int 0) ⟨271,76,271,77⟩) ⟨271,71,271,78⟩), (.var 86 ⟨271,80,271,85⟩)] [] ⟨271,62,271,70⟩ ⟨271,62,271,86⟩), (.var 83 ⟨271,88,271,92⟩)] [] ⟨271,51,271,61⟩ ⟨271,51,271,93⟩) (.cst (.int 1) (.int 1) ⟨271,94,271,95⟩) ⟨271,51,271,96⟩) .Div (.var 83 ⟨271,99,271,103⟩) ⟨271,51,271,103⟩)] ⟨271,20,271,104⟩ ⟨271,8,271,104⟩)
noncomputable def Zt27 : S := (.ifs (.bop .Or [(.cmp (.var 126 ⟨272,11,272,15⟩) .NotEq (.tupl [(.var 127 ⟨272,20,272,23⟩), (.bin (.var 117 ⟨272,25,272,30⟩) .Div (.cst (.int 8) (.int 8) ⟨272,33,272,34⟩) ⟨272,25,272,34⟩), (.bin (.var 118 ⟨272,36,272,41⟩) .Div (.cst (.int 8) (.int 8) ⟨272,44,272,45⟩) ⟨272,36,272,45⟩)] ⟨272,19,272,46⟩) ⟨272,11,272,46⟩), (.cmp (.slc (.gcall 9 62 [(.var 123 ⟨272,61,272,64⟩), (.var 124 ⟨272,66,272,71⟩), (.var 125 ⟨272,73,272,77⟩)] [] ⟨272,50,272,60⟩ ⟨272,50,272,78⟩) .no (.so (.cst (.int 2) (.int 2) ⟨272,80,272,81⟩)) .no ⟨272,79,272,81⟩ ⟨272,50,272,82⟩) .NotEq (.tupl [(.var 127 ⟨272,87,272,90⟩), (.bin (.bin (.var 118 ⟨272,92,272,97⟩) .Mult (.bin (.cst (.int 16) (.int 16) ⟨272,101,272,103⟩) .Sub (.var 117 ⟨272,106,272,111⟩) ⟨272,101,272,111⟩) ⟨272,92,272,112⟩) .Div (.cst (.int 128) (.int 128) ⟨272,115,272,118⟩) ⟨272,92,272,118⟩)] ⟨272,86,272,119⟩) ⟨272,50,272,119⟩)] ⟨272,11,272,119⟩) [ (.ret (.cst (.bool false) (.bool false) ⟨273,19,273,24⟩) ⟨273,12,273,24⟩)] [ ] ⟨272,8,273,24⟩)
noncomputable def Zt28 : S := (.expm .append (.var 122 ⟨274,8,274,12⟩) [(.idx (.var 126 ⟨274,20,274,24⟩) (.cst (.int 0) (.int 0) ⟨274,25,274,26⟩) ⟨274,20,274,27⟩)] ⟨274,8,274,19⟩ ⟨274,8,274,28⟩ ⟨274,8,274,28⟩)
noncomputable def Zt29 : S := (.asg (.name 144 ⟨300,8,300,12⟩) (.bop .And [(.cmp2 (.var 79 ⟨300,15,300,20⟩) .LtE (.var 129 ⟨300,24,300,28⟩) .Lt (.var 137 ⟨300,31,300,37⟩) ⟨300,15,300,37⟩), (.cmp (.var 129 ⟨300,42,300,46⟩) .In (.var 140 ⟨300,50,300,53⟩) ⟨300,42,300,53⟩), (.cmp (.bcall .len [(.var 143 ⟨300,63,300,67⟩)] ⟨300,59,300,62⟩ ⟨300,59,300,68⟩) .GtE (.bin (.bcall .len [(.var 134 ⟨300,76,300,81⟩)] ⟨300,72,300,75⟩ ⟨300,72,300,82⟩) .Add (.bcall .len [(.var 135 ⟨300,89,300,92⟩)] ⟨300,85,300,88⟩ ⟨300,85,300,93⟩) ⟨300,72,300,93⟩) ⟨300,59,300,93⟩)] ⟨300,15,300,94⟩) ⟨300,8,300,94⟩)
noncomputable def Zt30 : S := (.asg (.name 145 ⟨301,8,301,12⟩) (.bop .Or [(.cmp (.var 129 ⟨301,15,301,19⟩) .Eq (.var 132 ⟨301,23,301,26⟩) ⟨301,15,301,26⟩), (.bop .And [(.cmp (.bcall .len [(.idx (.var 121 ⟨301,35,301,40⟩) (.var 132 ⟨301,41,301,44⟩) ⟨301,35,301,45⟩)] ⟨301,31,301,34⟩ ⟨301,31,301,46⟩) .Gt (.cst (.int 1) (.int 1) ⟨301,49,301,50⟩) ⟨301,31,301,50⟩), (.cmp (.bin (.slc (.var 143 ⟨301,55,301,59⟩) .no (.so (.cst (.int 1) (.int 1) ⟨301,61,301,62⟩)) .no ⟨301,60,301,62⟩ ⟨301,55,301,63⟩) .Add (.slc (.var 143 ⟨301,66,301,70⟩) (.so (.un .USub (.cst (.int 1) (.int 1) ⟨301,72,301,73⟩) ⟨301,71,301,73⟩)) .no .no ⟨301,71,301,74⟩ ⟨301,66,301,75⟩) ⟨301,55,301,75⟩) .Eq (.bin (.idx (.idx (.var 121 ⟨301,79,301,84⟩) (.var 132 ⟨301,85,301,88⟩) ⟨301,79,301,89⟩) (.cst (.int 0) (.int 0) ⟨301,90,301,91⟩) ⟨301,79,301,92⟩) .Add (.idx (.idx (.var 121 ⟨301,95,301,100⟩) (.var 132 ⟨301,101,301,104⟩) ⟨301,95,301,105⟩) (.un .USub (.cst (.int 1) (.int 1) ⟨301,107,301,108⟩) ⟨301,106,301,108⟩) ⟨301,95,301,109⟩) ⟨301,79,301,109⟩) ⟨301,55,301,109⟩)] ⟨301,31,301,109⟩)] ⟨301,15,301,110⟩) ⟨301,8,301,110⟩)
noncomputable def Zt31 : S := (.asg (.name 146 ⟨302,8,302,13⟩) (.gcall 19 115 [(.idx (.idx (.var 120 ⟨302,30,302,34⟩) (.var 129 ⟨302,35,302,39⟩) ⟨302,30,302,40⟩) (.cst (.int 0) (.int 0) ⟨302,41,302,42⟩) ⟨302,30,302,43⟩), (.idx (.idx (.var 120 ⟨302,45,302,49⟩) (.var 133 ⟨302,50,302,55⟩) ⟨302,45,302,56⟩) (.cst (.int 0) (.int 0) ⟨302,57,302,58⟩) ⟨302,45,302,59⟩)] [] ⟨302,16,302,29⟩ ⟨302,16,302,60⟩) ⟨302,8,302,60⟩)
noncomputable def Zt32 : S := (.asg (.name 147 ⟨303,8,303,12⟩) (.list [(.var 144 ⟨303,16,303,20⟩), (.cmp (.var 129 ⟨303,22,303,26⟩) .Eq (.var 132 ⟨303,30,303,33⟩) ⟨303,22,303,33⟩), (.bop .And [(.var 145 ⟨303,35,303,39⟩), (.gcall 19 115 [(.idx (.idx (.var 120 ⟨303,58,303,62⟩) (.var 129 ⟨303,63,303,67⟩) ⟨303,58,303,68⟩) (.cst (.int 0) (.int 0) ⟨303,69,303,70⟩) ⟨303,58,303,71⟩), (.idx (.idx (.var 120 ⟨303,73,303,77⟩) (.var 132 ⟨303,78,303,81⟩) ⟨303,73,303,82⟩) (.cst (.int 0) (.int 0) ⟨303,83,303,84⟩) ⟨303,73,303,85⟩)] [] ⟨303,44,303,57⟩ ⟨303,44,303,86⟩)] ⟨303,35,303,86⟩), (.bop .And [(.var 146 ⟨303,88,303,93⟩), (.mcall .endswith (.var 143 ⟨303,98,303,102⟩) [(.slc (.var 141 ⟨303,112,303,118⟩) .no (.so (.cst (.int 1) (.int 1) ⟨303,120,303,121⟩)) .no ⟨303,119,303,121⟩ ⟨303,112,303,122⟩)] ⟨303,98,303,111⟩ ⟨303,98,303,123⟩)] ⟨303,88,303,123⟩), (.bop .And [(.var 146 ⟨303,125,303,130⟩), (.cmp (.var 141 ⟨303,135,303,141⟩) .Eq (.idx (.var 121 ⟨303,145,303,150⟩) (.var 133 ⟨303,151,303,156⟩) ⟨303,145,303,157⟩) ⟨303,135,303,157⟩)] ⟨303,125,303,157⟩)] ⟨303,15,303,158⟩) ⟨303,8,303,158⟩)
noncomputable def Zt33 : S := (.ifs (.cmp (.comp (.var 0 ⟨304,12,304,16⟩) [(.mk Zt2 Zt3 Zt4)] [(77, .loc), (0, .loc), (148, .loc), (7, .glb), (143, .fre)] ⟨304,11,304,93⟩) .NotEq (.list [] ⟨304,97,304,99⟩) ⟨304,11,304,99⟩) [ (.ret (.cst (.bool false) (.bool false) ⟨305,19,305,24⟩) ⟨305,12,305,24⟩)] [ ] ⟨304,8,305,24⟩)
noncomputable def Zt34 : Tg := (.tup [(76, ⟨269,8,269,14⟩), (103, ⟨269,16,269,20⟩)] ⟨269,8,269,20⟩)
noncomputable def Zt35 : It := (.en (.var 120 ⟨269,34,269,38⟩) ⟨269,24,269,33⟩ ⟨269,24,269,39⟩)
noncomputable def Zt36 : List S := [ Zt25, Zt26, Zt27, Zt28]
noncomputable def Zt37 : Tg := (.tup [(129, ⟨299,8,299,12⟩), (143, ⟨299,14,299,18⟩)] ⟨299,8,299,18⟩)
noncomputable def Zt38 : It := (.en (.var 121 ⟨299,32,299,37⟩) ⟨299,22,299,31⟩ ⟨299,22,299,38⟩)
noncomputable def Zt39 : List S := [ Zt29, Zt30, Zt31, Zt32, Zt33]
noncomputable def Zt40 : X := (.bop .And [(.cmp (.gcall 18 111 [(.var 132 ⟨306,24,306,27⟩), (.var 94 ⟨306,29,306,35⟩)] [] ⟨306,11,306,23⟩ ⟨306,11,306,36⟩) .Eq (.tupl [(.idx (.idx (.var 120 ⟨306,41,306,45⟩) (.var 132 ⟨306,46,306,49⟩) ⟨306,41,306,50⟩) (.cst (.int 0) (.int 0) ⟨306,51,306,52⟩) ⟨306,41,306,53⟩), (.cst (.int 0) (.int 0) ⟨306,55,306,56⟩)] ⟨306,40,306,57⟩) ⟨306,11,306,57⟩), (.cmp (.gcall 18 111 [(.var 133 ⟨306,75,306,80⟩), (.var 94 ⟨306,82,306,88⟩)] [] ⟨306,62,306,74⟩ ⟨306,62,306,89⟩) .Eq (.tupl [(.idx (.idx (.var 120 ⟨306,94,306,98⟩) (.var 133 ⟨306,99,306,104⟩) ⟨306,94,306,105⟩) (.cst (.int 0) (.int 0) ⟨306,106,306,107⟩) ⟨306,94,306,108⟩), (.cst (.int 0) (.int 0) ⟨306,110,306,111⟩)] ⟨306,93,306,112⟩) ⟨306,62,306,112⟩)] ⟨306,11,306,112⟩)
noncomputable def Zt41 : S := (.asw [(83, ⟨259,4,259,8⟩), (117, ⟨259,10,259,15⟩), (118, ⟨259,17,259,22⟩)] ⟨259,4,259,22⟩ [(.bin (.cst (.int 8) (.int 8) ⟨259,26,259,27⟩) .Add (.bin (.bin (.idx (.var 116 ⟨259,30,259,35⟩) (.cst (.int 0) (.int 0) ⟨259,36,259,37⟩) ⟨259,30,259,38⟩) .Mod (.cst (.int 2) (.int 2) ⟨259,41,259,42⟩) ⟨259,30,259,42⟩) .Mult (.cst (.int 8) (.int 8) ⟨259,45,259,46⟩) ⟨259,30,259,46⟩) ⟨259,26,259,46⟩), (.bin (.cst (.int 1) (.int 1) ⟨259,48,259,49⟩) .Add (.bin (.idx (.var 116 ⟨259,52,259,57⟩) (.cst (.int 1) (.int 1) ⟨259,58,259,59⟩) ⟨259,52,259,60⟩) .Mod (.cst (.int 8) (.int 8) ⟨259,63,259,64⟩) ⟨259,52,259,64⟩) ⟨259,48,259,64⟩), (.bin (.cst (.int 1) (.int 1) ⟨259,66,259,67⟩) .Add (.bin (.bin (.idx (.var 116 ⟨259,70,259,75⟩) (.cst (.int 1) (.int 1) ⟨259,76,259,77⟩) ⟨259,70,259,78⟩) .FloorDiv (.cst (.int 8) (.int 8) ⟨259,82,259,83⟩) ⟨259,70,259,83⟩) .Mod (.cst (.int 8) (.int 8) ⟨259,86,259,87⟩) ⟨259,70,259,87⟩) ⟨259,66,259,87⟩)] ⟨259,25,259,88⟩ ⟨259,4,259,88⟩)
noncomputable def Zt42 : S := (.asg (.name 84 ⟨260,4,260,8⟩) (.bin (.cst (.int 1) (.int 1) ⟨260,11,260,12⟩) .Add (.bin (.bin (.bin (.idx (.var 116 ⟨260,15,260,20⟩) (.cst (.int 0) (.int 0) ⟨260,21,260,22⟩) ⟨260,15,260,23⟩) .FloorDiv (.cst (.int 2) (.int 2) ⟨260,27,260,28⟩) ⟨260,15,260,28⟩) .Mod (.bin (.var 83 ⟨260,32,260,36⟩) .FloorDiv (.cst (.int 2) (.int 2) ⟨260,40,260,41⟩) ⟨260,32,260,41⟩) ⟨260,15,260,42⟩) .Mult (.cst (.int 2) (.int 2) ⟨260,45,260,46⟩) ⟨260,15,260,46⟩) ⟨260,11,260,46⟩) ⟨260,4,260,46⟩)
noncomputable def Zt43 : S := (.fors Zt34 Zt35 Zt36 ⟨269,4,274,28⟩)
noncomputable def Zt44 : S := (.asw [(132, ⟨285,4,285,7⟩), (133, ⟨285,9,285,14⟩)] ⟨285,4,285,14⟩ [(.bin (.idx (.var 116 ⟨285,18,285,23⟩) (.cst (.int 2) (.int 2) ⟨285,24,285,25⟩) ⟨285,18,285,26⟩) .Mod (.var 83 ⟨285,29,285,33⟩) ⟨285,18,285,33⟩), (.bin (.idx (.var 116 ⟨285,35,285,40⟩) (.cst (.int 3) (.int 3) ⟨285,41,285,42⟩) ⟨285,35,285,43⟩) .Mod (.var 83 ⟨285,46,285,50⟩) ⟨285,35,285,50⟩)] ⟨285,17,285,51⟩ ⟨285,4,285,51⟩)
noncomputable def Zt45 : S := (.asg (.name 134 ⟨286,4,286,9⟩) (.slc (.idx (.var 121 ⟨286,12,286,17⟩) (.var 132 ⟨286,18,286,21⟩) ⟨286,12,286,22⟩) .no (.so (.bin (.bin (.idx (.var 116 ⟨286,24,286,29⟩) (.cst (.int 2) (.int 2) ⟨286,30,286,31⟩) ⟨286,24,286,32⟩) .FloorDiv (.cst (.int 16) (.int 16) ⟨286,36,286,38⟩) ⟨286,24,286,38⟩) .Mod (.bin (.bcall .len [(.idx (.var 121 ⟨286,46,286,51⟩) (.var 132 ⟨286,52,286,55⟩) ⟨286,46,286,56⟩)] ⟨286,42,286,45⟩ ⟨286,42,286,57⟩) .Add (.cst (.int 1) (.int 1) ⟨286,60,286,61⟩) ⟨286,42,286,61⟩) ⟨286,24,286,62⟩)) .no ⟨286,23,286,62⟩ ⟨286,12,286,63⟩) ⟨286,4,286,63⟩)
noncomputable def Zt46 : S := (.asg (.name 135 ⟨287,4,287,7⟩) (.slc (.idx (.var 121 ⟨287,10,287,15⟩) (.var 133 ⟨287,16,287,21⟩) ⟨287,10,287,22⟩) (.so (.bin (.bin (.idx (.var 116 ⟨287,23,287,28⟩) (.cst (.int 3) (.int 3) ⟨287,29,287,30⟩) ⟨287,23,287,31⟩) .FloorDiv (.cst (.int 16) (.int 16) ⟨287,35,287,37⟩) ⟨287,23,287,37⟩) .Mod (.bin (.bcall .len [(.idx (.var 121 ⟨287,45,287,50⟩) (.var 133 ⟨287,51,287,56⟩) ⟨287,45,287,57⟩)] ⟨287,41,287,44⟩ ⟨287,41,287,58⟩) .Add (.cst (.int 1) (.int 1) ⟨287,61,287,62⟩) ⟨287,41,287,62⟩) ⟨287,23,287,63⟩)) .no .no ⟨287,23,287,64⟩ ⟨287,10,287,65⟩) ⟨287,4,287,65⟩)
noncomputable def Zt47 : S := (.asw [(79, ⟨288,4,288,9⟩), (136, ⟨288,11,288,15⟩)] ⟨288,4,288,15⟩ [(.mcall .index (.var 121 ⟨288,19,288,24⟩) [(.var 134 ⟨288,31,288,36⟩)] ⟨288,19,288,30⟩ ⟨288,19,288,37⟩), (.mcall .index (.var 131 ⟨288,39,288,43⟩) [(.mcall .index (.var 121 ⟨288,50,288,55⟩) [(.var 135 ⟨288,62,288,65⟩)] ⟨288,50,288,61⟩ ⟨288,50,288,66⟩)] ⟨288,39,288,49⟩ ⟨288,39,288,67⟩)] ⟨288,18,288,68⟩ ⟨288,4,288,68⟩)
noncomputable def Zt48 : S := (.asg (.name 137 ⟨289,4,289,10⟩) (.gcall 8 50 [(.bcall .list [(.bcall .range [(.var 83 ⟨289,36,289,40⟩)] ⟨289,30,289,35⟩ ⟨289,30,289,41⟩)] ⟨289,25,289,29⟩ ⟨289,25,289,42⟩), (.cst (.bool true) (.bool true) ⟨289,44,289,48⟩), (.var 79 ⟨289,50,289,55⟩), (.var 83 ⟨289,57,289,61⟩)] [(.mk 46 (.lam [(129, ⟨289,74,289,78⟩)] Zt12 [(129, .loc), (134, .fre), (121, .fre), (7, .glb)] [] ⟨289,67,289,127⟩) ⟨289,63,289,127⟩)] ⟨289,13,289,24⟩ ⟨289,13,289,128⟩) ⟨289,4,289,128⟩)
noncomputable def Zt49 : S := (.asg (.name 138 ⟨290,4,290,7⟩) (.gcall 8 50 [(.var 131 ⟨290,22,290,26⟩), (.cst (.bool true) (.bool true) ⟨290,28,290,32⟩), (.cst (.int 0) (.int 0) ⟨290,34,290,35⟩), (.var 136 ⟨290,37,290,41⟩)] [(.mk 46 (.lam [(129, ⟨290,54,290,58⟩)] Zt13 [(129, .loc), (135, .fre), (121, .fre), (7, .glb)] [] ⟨290,47,290,101⟩) ⟨290,43,290,101⟩)] ⟨290,10,290,21⟩ ⟨290,10,290,102⟩) ⟨290,4,290,102⟩)
noncomputable def Zt50 : S := (.asg (.name 139 ⟨291,4,291,8⟩) (.gcall 7 47 [(.var 131 ⟨291,24,291,28⟩), (.cst (.bool false) (.bool false) ⟨291,30,291,35⟩), (.var 136 ⟨291,37,291,41⟩), (.var 83 ⟨291,43,291,47⟩)] [(.mk 46 (.lam [(129, ⟨291,60,291,64⟩)] Zt14 [(129, .loc), (135, .fre), (121, .fre), (7, .glb)] [] ⟨291,53,291,111⟩) ⟨291,49,291,111⟩)] ⟨291,11,291,23⟩ ⟨291,11,291,112⟩) ⟨291,4,291,112⟩)
noncomputable def Zt51 : S := (.ifs (.cmp (.comp (.var 129 ⟨292,8,292,12⟩) [(.mk (.name 129 ⟨292,17,292,21⟩) Zt15 [Zt7])] [(77, .loc), (129, .loc), (134, .fre), (121, .fre)] ⟨292,7,292,70⟩) .NotEq (.bcall .list [(.bcall .range [(.var 79 ⟨292,85,292,90⟩), (.var 137 ⟨292,92,292,98⟩)] ⟨292,79,292,84⟩ ⟨292,79,292,99⟩)] ⟨292,74,292,78⟩ ⟨292,74,292,100⟩) ⟨292,7,292,100⟩) [ (.ret (.cst (.bool false) (.bool false) ⟨293,15,293,20⟩) ⟨293,8,293,20⟩)] [ ] ⟨292,4,293,20⟩)
noncomputable def Zt52 : S := (.asg (.name 140 ⟨294,4,294,7⟩) (.slc (.var 131 ⟨294,10,294,14⟩) (.so (.var 138 ⟨294,15,294,18⟩)) (.so (.var 139 ⟨294,19,294,23⟩)) .no ⟨294,15,294,23⟩ ⟨294,10,294,24⟩) ⟨294,4,294,24⟩)
noncomputable def Zt53 : S := (.ifs (.cmp (.comp (.var 129 ⟨295,8,295,12⟩) [(.mk (.name 129 ⟨295,17,295,21⟩) Zt16 [Zt8])] [(77, .loc), (129, .loc), (135, .fre), (121, .fre)] ⟨295,7,295,66⟩) .NotEq (.bcall .sorted [(.var 140 ⟨295,77,295,80⟩)] ⟨295,70,295,76⟩ ⟨295,70,295,81⟩) ⟨295,7,295,81⟩) [ (.ret (.cst (.bool false) (.bool false) ⟨296,15,296,20⟩) ⟨296,8,296,20⟩)] [ ] ⟨295,4,296,20⟩)
noncomputable def Zt54 : S := (.asg (.name 141 ⟨297,4,297,10⟩) (.slc (.idx (.var 121 ⟨297,13,297,18⟩) (.var 133 ⟨297,19,297,24⟩) ⟨297,13,297,25⟩) .no .no (.so (.un .USub (.cst (.int 1) (.int 1) ⟨297,29,297,30⟩) ⟨297,28,297,30⟩)) ⟨297,26,297,30⟩ ⟨297,13,297,31⟩) ⟨297,4,297,31⟩)
noncomputable def Zt55 : S := (.asg (.name 142 ⟨298,4,298,9⟩) (.list [(.bin (.bin (.var 134 ⟨298,13,298,18⟩) .Add (.cst (.str "...") (.str [46,46,46]) ⟨298,21,298,26⟩) ⟨298,13,298,26⟩) .Add (.var 135 ⟨298,29,298,32⟩) ⟨298,13,298,32⟩), (.idx (.var 121 ⟨298,34,298,39⟩) (.var 132 ⟨298,40,298,43⟩) ⟨298,34,298,44⟩), (.mcall .join (.cst (.str "...") (.str [46,46,46]) ⟨298,46,298,51⟩) [(.bcall .list [(.idx (.var 121 ⟨298,62,298,67⟩) (.var 132 ⟨298,68,298,71⟩) ⟨298,62,298,72⟩)] ⟨298,57,298,61⟩ ⟨298,57,298,73⟩)] ⟨298,46,298,56⟩ ⟨298,46,298,74⟩), (.bin (.cst (.str "...") (.str [46,46,46]) ⟨298,76,298,81⟩) .Add (.mcall .join (.cst (.str "...") (.str [46,46,46]) ⟨298,84,298,89⟩) [(.bcall .list [(.idx (.var 121 ⟨298,100,298,105⟩) (.var 133 ⟨298,106,298,111⟩) ⟨298,100,298,112⟩)] ⟨298,95,298,99⟩ ⟨298,95,298,113⟩)] ⟨298,84,298,94⟩ ⟨298,84,298,114⟩) ⟨298,76,298,114⟩), (.bin (.bin (.cst (.str "...") (.str [46,46,46]) ⟨298,116,298,121⟩) .Add (.mcall .join (.cst (.str "...") (.str [46,46,46]) ⟨298,124,298,129⟩) [(.bcall .list [(.var 141 ⟨298,140,298,146⟩)] ⟨298,135,298,139⟩ ⟨298,135,298,147⟩)] ⟨298,124,298,134⟩ ⟨298,124,298,148⟩) ⟨298,116,298,148⟩) .Add (.cst (.str "...") (.str [46,46,46]) ⟨298,151,298,156⟩) ⟨298,116,298,156⟩)] ⟨298,12,298,157⟩) ⟨298,4,298,157⟩)
noncomputable def Zt56 : S := (.fors Zt37 Zt38 Zt39 ⟨299,4,305,24⟩)
noncomputable def Zt57 : S := (.ret Zt40 ⟨306,4,306,112⟩)
noncomputable def b0 : List S := [ (.ifs (.cmp (.gcon 2 (.str [46,46,46]) ⟨4,7,4,22⟩) .NotIn (.var 0 ⟨4,30,4,34⟩) ⟨4,7,4,34⟩) [ (.ret (.cmp (.var 0 ⟨5,15,5,19⟩) .Eq (.var 1 ⟨5,23,5,26⟩) ⟨5,15,5,26⟩) ⟨5,8,5,26⟩)] [ ] ⟨4,4,5,26⟩), (.asg (.name 3 ⟨6,4,6,6⟩) (.mcall .split (.var 0 ⟨6,9,6,13⟩) [(.gcon 2 (.str [46,46,46]) ⟨6,20,6,35⟩)] ⟨6,9,6,19⟩ ⟨6,9,6,36⟩) ⟨6,4,6,36⟩), (.asrt (.cmp (.bcall .len [(.var 3 ⟨7,15,7,17⟩)] ⟨7,11,7,14⟩ ⟨7,11,7,18⟩) .GtE (.cst (.int 2) (.int 2) ⟨7,22,7,23⟩) ⟨7,11,7,23⟩) ⟨7,4,7,23⟩), (.asw [(4, ⟨8,4,8,12⟩), (5, ⟨8,14,8,20⟩)] ⟨8,4,8,20⟩ [(.cst (.int 0) (.int 0) ⟨8,24,8,25⟩), (.bcall .len [(.var 1 ⟨8,31,8,34⟩)] ⟨8,27,8,30⟩ ⟨8,27,8,35⟩)] ⟨8,23,8,36⟩ ⟨8,4,8,36⟩), (.asg (.name 6 ⟨9,4,9,5⟩) (.idx (.var 3 ⟨9,8,9,10⟩) (.cst (.int 0) (.int 0) ⟨9,11,9,12⟩) ⟨9,8,9,13⟩) ⟨9,4,9,13⟩), (.ifs (.var 6 ⟨10,7,10,8⟩) [ (.ifs (.mcall .startswith (.var 1 ⟨11,11,11,14⟩) [(.var 6 ⟨11,26,11,27⟩)] ⟨11,11,11,25⟩ ⟨11,11,11,28⟩) [ (.asg (.name 4 ⟨12,12,12,20⟩) (.bcall .len [(.var 6 ⟨12,27,12,28⟩)] ⟨12,23,12,26⟩ ⟨12,23,12,29⟩) ⟨12,12,12,29⟩), (.deli (.var 3 ⟨13,16,13,18⟩) (.cst (.int 0) (.int 0) ⟨13,19,13,20⟩) ⟨13,16,13,21⟩ ⟨13,12,13,21⟩)] [ (.ret (.cst (.bool false) (.bool false) ⟨15,19,15,24⟩) ⟨15,12,15,24⟩)] ⟨11,8,15,24⟩)] [ ] ⟨10,4,15,24⟩), (.asg (.name 6 ⟨16,4,16,5⟩) (.idx (.var 3 ⟨16,8,16,10⟩) (.un .USub (.cst (.int 1) (.int 1) ⟨16,12,16,13⟩) ⟨16,11,16,13⟩) ⟨16,8,16,14⟩) ⟨16,4,16,14⟩), (.ifs (.var 6 ⟨17,7,17,8⟩) [ (.ifs (.mcall .endswith (.var 1 ⟨18,11,18,14⟩) [(.var 6 ⟨18,24,18,25⟩)] ⟨18,11,18,23⟩ ⟨18,11,18,26⟩) [ (.aug 5 ⟨19,12,19,18⟩ .Sub (.bcall .len [(.var 6 ⟨19,26,19,27⟩)] ⟨19,22,19,25⟩ ⟨19,22,19,28⟩) ⟨19,12,19,28⟩), (.deli (.var 3 ⟨20,16,20,18⟩) (.un .USub (.cst (.int 1) (.int 1) ⟨20,20,20,21⟩) ⟨20,19,20,21⟩) ⟨20,16,20,22⟩ ⟨20,12,20,22⟩)] [ (.ret (.cst (.bool false) (.bool false) ⟨22,19,22,24⟩) ⟨22,12,22,24⟩)] ⟨18,8,22,24⟩)] [ ] ⟨17,4,22,24⟩), (.ifs (.cmp (.var 4 ⟨23,7,23,15⟩) .Gt (.var 5 ⟨23,18,23,24⟩) ⟨23,7,23,24⟩) [ (.ret (.cst (.bool false) (.bool false) ⟨24,15,24,20⟩) ⟨24,8,24,20⟩)] [ ] ⟨23,4,24,20⟩), (.fors (.name 6 ⟨25,8,25,9⟩) (.pl (.var 3 ⟨25,13,25,15⟩)) [ (.asg (.name 4 ⟨26,8,26,16⟩) (.mcall .find (.var 1 ⟨26,19,26,22⟩) [(.var 6 ⟨26,28,26,29⟩), (.var 4 ⟨26,31,26,39⟩), (.var 5 ⟨26,41,26,47⟩)] ⟨26,19,26,27⟩ ⟨26,19,26,48⟩) ⟨26,8,26,48⟩), (.ifs (.cmp (.var 4 ⟨27,11,27,19⟩) .Lt (.cst (.int 0) (.int 0) ⟨27,22,27,23⟩) ⟨27,11,27,23⟩) [ (.ret (.cst (.bool false) (.bool false) ⟨28,19,28,24⟩) ⟨28,12,28,24⟩)] [ ] ⟨27,8,28,24⟩), (.aug 4 ⟨29,8,29,16⟩ .Add (.bcall .len [(.var 6 ⟨29,24,29,25⟩)] ⟨29,20,29,23⟩ ⟨29,20,29,26⟩) ⟨29,8,29,26⟩)] ⟨25,4,29,26⟩), (.ret (.cst (.bool true) (.bool true) ⟨30,11,30,15⟩) ⟨30,4,30,15⟩)]
noncomputable def f0 : Fn := { nmk := 7, ps := [(0, ⟨3,20,3,24⟩), (1, ⟨3,26,3,29⟩)], df := [], ko := [], kdf := [], body := b0, kd := [(0, .loc), (1, .loc), (3, .loc), (4, .loc), (5, .loc), (6, .loc), (2, .glb), (8, .glb)], mo := [], pure := true, p := ⟨3,0,30,15⟩ }
noncomputable def b1 : List S := [ (.ifs (.cmp (.bin (.mcall .bitLength (.var 9 ⟨34,7,34,8⟩) [] ⟨34,7,34,19⟩ ⟨34,7,34,21⟩) .Sub (.var 11 ⟨34,24,34,25⟩) ⟨34,7,34,25⟩) .LtE (.gcon 12 (.int 4000) ⟨34,29,34,39⟩) ⟨34,7,34,39⟩) [ (.ret (.bcall .divmod [(.var 9 ⟨35,22,35,23⟩), (.var 10 ⟨35,25,35,26⟩)] ⟨35,15,35,21⟩ ⟨35,15,35,27⟩) ⟨35,8,35,27⟩)] [ ] ⟨34,4,35,27⟩), (.asg (.name 13 ⟨36,4,36,7⟩) (.bin (.var 11 ⟨36,10,36,11⟩) .BitAnd (.cst (.int 1) (.int 1) ⟨36,14,36,15⟩) ⟨36,10,36,15⟩) ⟨36,4,36,15⟩), (.ifs (.var 13 ⟨37,7,37,10⟩) [ (.aug 9 ⟨38,8,38,9⟩ .LShift (.cst (.int 1) (.int 1) ⟨38,14,38,15⟩) ⟨38,8,38,15⟩), (.aug 10 ⟨39,8,39,9⟩ .LShift (.cst (.int 1) (.int 1) ⟨39,14,39,15⟩) ⟨39,8,39,15⟩), (.aug 11 ⟨40,8,40,9⟩ .Add (.cst (.int 1) (.int 1) ⟨40,13,40,14⟩) ⟨40,8,40,14⟩)] [ ] ⟨37,4,40,14⟩), (.asg (.name 14 ⟨41,4,41,10⟩) (.bin (.var 11 ⟨41,13,41,14⟩) .RShift (.cst (.int 1) (.int 1) ⟨41,18,41,19⟩) ⟨41,13,41,19⟩) ⟨41,4,41,19⟩), (.asg (.name 15 ⟨42,4,42,8⟩) (.bin (.bin (.cst (.int 1) (.int 1) ⟨42,12,42,13⟩) .LShift (.var 14 ⟨42,17,42,23⟩) ⟨42,12,42,23⟩) .Sub (.cst (.int 1) (.int 1) ⟨42,27,42,28⟩) ⟨42,11,42,28⟩) ⟨42,4,42,28⟩), (.asw [(16, ⟨43,4,43,6⟩), (17, ⟨43,8,43,10⟩)] ⟨43,4,43,10⟩ [(.bin (.var 10 ⟨43,14,43,15⟩) .RShift (.var 14 ⟨43,19,43,25⟩) ⟨43,14,43,25⟩), (.bin (.var 10 ⟨43,27,43,28⟩) .BitAnd (.var 15 ⟨43,31,43,35⟩) ⟨43,27,43,35⟩)] ⟨43,13,43,36⟩ ⟨43,4,43,36⟩), (.raw (PySem.Stmt.Assign (targets := [(PySem.Expr.Tuple (elts := [(PySem.Expr.Name "q1" ⟨44, 4, 44, 6⟩), (PySem.Expr.Name "r" ⟨44, 8, 44, 9⟩)]) (k := 0) (pos := ⟨44, 4, 44, 9⟩))]) (value := (PySem.Expr.Call (func := (PySem.Expr.Name "_div3n2n" ⟨44, 12, 44, 20⟩)) (args := [(PySem.Expr.BinOp (left := (PySem.Expr.Name "a" ⟨44, 21, 44, 22⟩)) (op := PySem.Operator.RShift) (right := (PySem.Expr.Name "n" ⟨44, 26, 44, 27⟩)) (pos := ⟨44, 21, 44, 27⟩)), (PySem.Expr.BinOp (left := (PySem.Expr.BinOp (left := (PySem.Expr.Name "a" ⟨44, 29, 44, 30⟩)) (op := PySem.Operator.RShift) (right := (PySem.Expr.Name "half_n" ⟨44, 34, 44, 40⟩)) (pos := ⟨44, 29, 44, 40⟩))) (op := PySem.Operator.BitAnd) (right := (PySem.Expr.Name "mask" ⟨44, 43, 44, 47⟩)) (pos := ⟨44, 29, 44, 47⟩)), (PySem.Expr.Name "b" ⟨44, 49, 44, 50⟩), (PySem.Expr.Name "b1" ⟨44, 52, 44, 54⟩), (PySem.Expr.Name "b2" ⟨44, 56, 44, 58⟩), (PySem.Expr.Name "half_n" ⟨44, 60, 44, 66⟩)]) (keywords := []) (pos := ⟨44, 12, 44, 67⟩))) (pos := ⟨44, 4, 44, 67⟩))), (.raw (PySem.Stmt.Assign (targets := [(PySem.Expr.Tuple (elts := [(PySem.Expr.Name "q2" ⟨45, 4, 45, 6⟩), (PySem.Expr.Name "r" ⟨45, 8, 45, 9⟩)]) (k := 0) (pos := ⟨45, 4, 45, 9⟩))]) (value := (PySem.Expr.Call (func := (PySem.Expr.Name "_div3n2n" ⟨45, 12, 45, 20⟩)) (args := [(PySem.Expr.Name "r" ⟨45, 21, 45, 22⟩), (PySem.Expr.BinOp (left := (PySem.Expr.Name "a" ⟨45, 24, 45, 25⟩)) (op := PySem.Operator.BitAnd) (right := (PySem.Expr.Name "mask" ⟨45, 28, 45, 32⟩)) (pos := ⟨45, 24, 45, 32⟩)), (PySem.Expr.Name "b" ⟨45, 34, 45, 35⟩), (PySem.Expr.Name "b1" ⟨45, 37, 45, 39⟩), (PySem.Expr.Name "b2" ⟨45, 41, 45, 43⟩), (PySem.Expr.Name "half_n" ⟨45, 45, 45, 51⟩)]) (keywords := []) (pos := ⟨45, 12, 45, 52⟩))) (pos := ⟨45, 4, 45, 52⟩))), (.ifs (.var 13 ⟨46,7,46,10⟩) [ (.aug 19 ⟨47,8,47,9⟩ .RShift (.cst (.int 1) (.int 1) ⟨47,14,47,15⟩) ⟨47,8,47,15⟩)] [ ] ⟨46,4,47,15⟩), (.ret (.tupl [(.bin (.bin (.var 18 ⟨48,12,48,14⟩) .LShift (.var 14 ⟨48,18,48,24⟩) ⟨48,12,48,24⟩) .BitOr (.var 20 ⟨48,27,48,29⟩) ⟨48,12,48,29⟩), (.var 19 ⟨48,31,48,32⟩)] ⟨48,11,48,33⟩) ⟨48,4,48,33⟩)]
noncomputable def f1 : Fn := { nmk := 21, ps := [(9, ⟨33,13,33,14⟩), (10, ⟨33,16,33,17⟩), (11, ⟨33,19,33,20⟩)], df := [], ko := [], kdf := [], body := b1, kd := [(9, .loc), (10, .loc), (11, .loc), (13, .loc), (14, .loc), (15, .loc), (16, .loc), (17, .loc), (18, .loc), (19, .loc), (20, .loc), (12, .glb), (22, .glb), (23, .glb)], mo := [], pure := true, p := ⟨33,0,48,33⟩ }
noncomputable def b2 : List S := [ (.asg (.name 24 ⟨60,4,60,12⟩) (.bin (.list [(.cst (.int 0) (.int 0) ⟨60,16,60,17⟩)] ⟨60,15,60,18⟩) .Mult (.bin (.bin (.bin (.mcall .bitLength (.var 9 ⟨60,23,60,24⟩) [] ⟨60,23,60,35⟩ ⟨60,23,60,37⟩) .Add (.var 11 ⟨60,40,60,41⟩) ⟨60,23,60,41⟩) .Sub (.cst (.int 1) (.int 1) ⟨60,44,60,45⟩) ⟨60,23,60,45⟩) .FloorDiv (.var 11 ⟨60,50,60,51⟩) ⟨60,22,60,51⟩) ⟨60,15,60,52⟩) ⟨60,4,60,52⟩), (.defn 25 [(26, ⟨62,14,62,15⟩), (27, ⟨62,17,62,18⟩), (28, ⟨62,20,62,21⟩)] [ (.ifs (.cmp (.bin (.var 27 ⟨63,11,63,12⟩) .Add (.cst (.int 1) (.int 1) ⟨63,15,63,16⟩) ⟨63,11,63,16⟩) .Eq (.var 28 ⟨63,20,63,21⟩) ⟨63,11,63,21⟩) [ (.seti (.var 24 ⟨64,12,64,20⟩) (.var 27 ⟨64,21,64,22⟩) ⟨64,12,64,23⟩ (.var 26 ⟨64,26,64,27⟩) ⟨64,12,64,27⟩), (.retn ⟨65,12,65,18⟩)] [ ] ⟨63,8,65,18⟩), (.asg (.name 29 ⟨66,8,66,11⟩) (.bin (.bin (.var 27 ⟨66,14,66,15⟩) .Add (.var 28 ⟨66,18,66,19⟩) ⟨66,14,66,19⟩) .RShift (.cst (.int 1) (.int 1) ⟨66,23,66,24⟩) ⟨66,14,66,24⟩) ⟨66,8,66,24⟩), (.asg (.name 30 ⟨67,8,67,13⟩) (.bin (.bin (.var 29 ⟨67,17,67,20⟩) .Sub (.var 27 ⟨67,23,67,24⟩) ⟨67,17,67,24⟩) .Mult (.var 11 ⟨67,28,67,29⟩) ⟨67,16,67,29⟩) ⟨67,8,67,29⟩), (.asg (.name 31 ⟨68,8,68,13⟩) (.bin (.var 26 ⟨68,16,68,17⟩) .RShift (.var 30 ⟨68,21,68,26⟩) ⟨68,16,68,26⟩) ⟨68,8,68,26⟩), (.asg (.name 32 ⟨69,8,69,13⟩) (.bin (.var 26 ⟨69,16,69,17⟩) .BitXor (.bin (.var 31 ⟨69,20,69,25⟩) .LShift (.var 30 ⟨69,29,69,34⟩) ⟨69,20,69,34⟩) ⟨69,16,69,34⟩) ⟨69,8,69,34⟩), (.expc (.vcall 25 [(.var 32 ⟨70,14,70,19⟩), (.var 27 ⟨70,21,70,22⟩), (.var 29 ⟨70,24,70,27⟩)] ⟨70,8,70,13⟩ ⟨70,8,70,28⟩) ⟨70,8,70,28⟩), (.expc (.vcall 25 [(.var 31 ⟨71,14,71,19⟩), (.var 29 ⟨71,21,71,24⟩), (.var 28 ⟨71,26,71,27⟩)] ⟨71,8,71,13⟩ ⟨71,8,71,28⟩) ⟨71,8,71,28⟩)] [(26, .loc), (27, .loc), (28, .loc), (29, .loc), (30, .loc), (31, .loc), (32, .loc), (24, .fre), (25, .fre), (11, .fre)] [] ⟨62,4,71,28⟩), (.ifs (.var 9 ⟨72,7,72,8⟩) [ (.expc (.vcall 25 [(.var 9 ⟨73,14,73,15⟩), (.cst (.int 0) (.int 0) ⟨73,17,73,18⟩), (.bcall .len [(.var 24 ⟨73,24,73,32⟩)] ⟨73,20,73,23⟩ ⟨73,20,73,33⟩)] ⟨73,8,73,13⟩ ⟨73,8,73,34⟩) ⟨73,8,73,34⟩)] [ ] ⟨72,4,73,34⟩), (.ret (.var 24 ⟨74,11,74,19⟩) ⟨74,4,74,19⟩)]
noncomputable def f2 : Fn := { nmk := 33, ps := [(9, ⟨59,16,59,17⟩), (11, ⟨59,19,59,20⟩)], df := [], ko := [], kdf := [], body := b2, kd := [(9, .loc), (11, .cel), (24, .cel), (25, .cel), (8, .glb)], mo := [], pure := true, p := ⟨59,0,74,19⟩ }
noncomputable def b3 : List S := [ (.defn 25 [(27, ⟨77,14,77,15⟩), (28, ⟨77,17,77,18⟩)] [ (.ifs (.cmp (.bin (.var 27 ⟨78,11,78,12⟩) .Add (.cst (.int 1) (.int 1) ⟨78,15,78,16⟩) ⟨78,11,78,16⟩) .Eq (.var 28 ⟨78,20,78,21⟩) ⟨78,11,78,21⟩) [ (.ret (.idx (.var 34 ⟨79,19,79,25⟩) (.var 27 ⟨79,26,79,27⟩) ⟨79,19,79,28⟩) ⟨79,12,79,28⟩)] [ ] ⟨78,8,79,28⟩), (.asg (.name 29 ⟨80,8,80,11⟩) (.bin (.bin (.var 27 ⟨80,14,80,15⟩) .Add (.var 28 ⟨80,18,80,19⟩) ⟨80,14,80,19⟩) .RShift (.cst (.int 1) (.int 1) ⟨80,23,80,24⟩) ⟨80,14,80,24⟩) ⟨80,8,80,24⟩), (.asg (.name 30 ⟨81,8,81,13⟩) (.bin (.bin (.var 29 ⟨81,17,81,20⟩) .Sub (.var 27 ⟨81,23,81,24⟩) ⟨81,17,81,24⟩) .Mult (.var 11 ⟨81,28,81,29⟩) ⟨81,16,81,29⟩) ⟨81,8,81,29⟩), (.ret (.bin (.bin (.vcall 25 [(.var 29 ⟨82,22,82,25⟩), (.var 28 ⟨82,27,82,28⟩)] ⟨82,16,82,21⟩ ⟨82,16,82,29⟩) .LShift (.var 30 ⟨82,33,82,38⟩) ⟨82,16,82,38⟩) .Add (.vcall 25 [(.var 27 ⟨82,48,82,49⟩), (.var 29 ⟨82,51,82,54⟩)] ⟨82,42,82,47⟩ ⟨82,42,82,55⟩) ⟨82,15,82,55⟩) ⟨82,8,82,55⟩)] [(27, .loc), (28, .loc), (29, .loc), (30, .loc), (34, .fre), (25, .fre), (11, .fre)] [] ⟨77,4,82,55⟩), (.ret (.ite (.var 34 ⟨83,36,83,42⟩) (.vcall 25 [(.cst (.int 0) (.int 0) ⟨83,17,83,18⟩), (.bcall .len [(.var 34 ⟨83,24,83,30⟩)] ⟨83,20,83,23⟩ ⟨83,20,83,31⟩)] ⟨83,11,83,16⟩ ⟨83,11,83,32⟩) (.cst (.int 0) (.int 0) ⟨83,48,83,49⟩) ⟨83,11,83,49⟩) ⟨83,4,83,49⟩)]
noncomputable def f3 : Fn := { nmk := 35, ps := [(34, ⟨75,16,75,22⟩), (11, ⟨75,24,75,25⟩)], df := [], ko := [], kdf := [], body := b3, kd := [(34, .cel), (11, .cel), (25, .cel), (8, .glb)], mo := [], pure := true, p := ⟨75,0,83,49⟩ }
noncomputable def b4 : List S := [ (.asg (.name 11 ⟨85,4,85,5⟩) (.mcall .bitLength (.var 10 ⟨85,8,85,9⟩) [] ⟨85,8,85,20⟩ ⟨85,8,85,22⟩) ⟨85,4,85,22⟩), (.asg (.name 24 ⟨86,4,86,12⟩) (.gcall 2 33 [(.var 9 ⟨86,27,86,28⟩), (.var 11 ⟨86,30,86,31⟩)] [] ⟨86,15,86,26⟩ ⟨86,15,86,32⟩) ⟨86,4,86,32⟩), (.asg (.name 19 ⟨87,4,87,5⟩) (.cst (.int 0) (.int 0) ⟨87,8,87,9⟩) ⟨87,4,87,9⟩), (.asg (.name 36 ⟨88,4,88,12⟩) (.list [] ⟨88,15,88,17⟩) ⟨88,4,88,17⟩), (.fors (.name 37 ⟨89,8,89,15⟩) (.rv (.var 24 ⟨89,28,89,36⟩) ⟨89,19,89,27⟩ ⟨89,19,89,37⟩) [ (.asg (.tup [(38, ⟨90,8,90,15⟩), (19, ⟨90,17,90,18⟩)] ⟨90,8,90,18⟩) (.gcall 1 21 [(.bin (.bin (.var 19 ⟨90,31,90,32⟩) .LShift (.var 11 ⟨90,36,90,37⟩) ⟨90,31,90,37⟩) .Add (.var 37 ⟨90,41,90,48⟩) ⟨90,30,90,48⟩), (.var 10 ⟨90,50,90,51⟩), (.var 11 ⟨90,53,90,54⟩)] [] ⟨90,21,90,29⟩ ⟨90,21,90,55⟩) ⟨90,8,90,55⟩), (.expm .append (.var 36 ⟨91,8,91,16⟩) [(.var 38 ⟨91,24,91,31⟩)] ⟨91,8,91,23⟩ ⟨91,8,91,32⟩ ⟨91,8,91,32⟩)] ⟨89,4,91,32⟩), (.expm .reverse (.var 36 ⟨92,4,92,12⟩) [] ⟨92,4,92,20⟩ ⟨92,4,92,22⟩ ⟨92,4,92,22⟩), (.asg (.name 39 ⟨93,4,93,5⟩) (.gcall 3 35 [(.var 36 ⟨93,20,93,28⟩), (.var 11 ⟨93,30,93,31⟩)] [] ⟨93,8,93,19⟩ ⟨93,8,93,32⟩) ⟨93,4,93,32⟩), (.ret (.tupl [(.var 39 ⟨94,12,94,13⟩), (.var 19 ⟨94,15,94,16⟩)] ⟨94,11,94,17⟩) ⟨94,4,94,17⟩)]
noncomputable def f4 : Fn := { nmk := 40, ps := [(9, ⟨84,16,84,17⟩), (10, ⟨84,19,84,20⟩)], df := [], ko := [], kdf := [], body := b4, kd := [(9, .loc), (10, .loc), (11, .loc), (24, .loc), (19, .loc), (36, .loc), (37, .loc), (38, .loc), (39, .loc), (33, .glb), (41, .glb), (21, .glb), (35, .glb)], mo := [], pure := true, p := ⟨84,0,94,17⟩ }
noncomputable def b5 : List S := [ (.ifs (.cmp (.var 10 ⟨96,7,96,8⟩) .Eq (.cst (.int 0) (.int 0) ⟨96,12,96,13⟩) ⟨96,7,96,13⟩) [ (.raw (PySem.Stmt.Raise (some (PySem.Expr.Name "ZeroDivisionError" ⟨97, 14, 97, 31⟩)) none ⟨97, 8, 97, 31⟩))] [ (.ifs (.cmp (.var 10 ⟨98,9,98,10⟩) .Lt (.cst (.int 0) (.int 0) ⟨98,13,98,14⟩) ⟨98,9,98,14⟩) [ (.asg (.tup [(39, ⟨99,8,99,9⟩), (19, ⟨99,11,99,12⟩)] ⟨99,8,99,12⟩) (.gcall 5 42 [(.un .USub (.var 9 ⟨99,27,99,28⟩) ⟨99,26,99,28⟩), (.un .USub (.var 10 ⟨99,31,99,32⟩) ⟨99,30,99,32⟩)] [] ⟨99,15,99,25⟩ ⟨99,15,99,33⟩) ⟨99,8,99,33⟩), (.ret (.tupl [(.var 39 ⟨100,16,100,17⟩), (.un .USub (.var 19 ⟨100,20,100,21⟩) ⟨100,19,100,21⟩)] ⟨100,15,100,22⟩) ⟨100,8,100,22⟩)] [ (.ifs (.cmp (.var 9 ⟨101,9,101,10⟩) .Lt (.cst (.int 0) (.int 0) ⟨101,13,101,14⟩) ⟨101,9,101,14⟩) [ (.asg (.tup [(39, ⟨102,8,102,9⟩), (19, ⟨102,11,102,12⟩)] ⟨102,8,102,12⟩) (.gcall 5 42 [(.un .Invert (.var 9 ⟨102,27,102,28⟩) ⟨102,26,102,28⟩), (.var 10 ⟨102,30,102,31⟩)] [] ⟨102,15,102,25⟩ ⟨102,15,102,32⟩) ⟨102,8,102,32⟩), (.ret (.tupl [(.un .Invert (.var 39 ⟨103,17,103,18⟩) ⟨103,16,103,18⟩), (.bin (.var 10 ⟨103,20,103,21⟩) .Add (.un .Invert (.var 19 ⟨103,25,103,26⟩) ⟨103,24,103,26⟩) ⟨103,20,103,26⟩)] ⟨103,15,103,27⟩) ⟨103,8,103,27⟩)] [ (.ret (.gcall 4 40 [(.var 9 ⟨105,27,105,28⟩), (.var 10 ⟨105,30,105,31⟩)] [] ⟨105,15,105,26⟩ ⟨105,15,105,32⟩) ⟨105,8,105,32⟩)] ⟨101,4,105,32⟩)] ⟨98,4,105,32⟩)] ⟨96,4,105,32⟩)]
noncomputable def f5 : Fn := { nmk := 42, ps := [(9, ⟨95,15,95,16⟩), (10, ⟨95,18,95,19⟩)], df := [], ko := [], kdf := [], body := b5, kd := [(9, .loc), (10, .loc), (39, .loc), (19, .loc), (43, .glb), (42, .glb), (40, .glb)], mo := [], pure := true, p := ⟨95,0,105,32⟩ }
noncomputable def b6 : List S := [ (.ifs (.cmp (.var 46 ⟨108,7,108,10⟩) .Is (.cst .none .none ⟨108,14,108,18⟩) ⟨108,7,108,18⟩) [ (.asg (.name 44 ⟨109,8,109,10⟩) (.gcall 7 47 [(.var 9 ⟨109,26,109,27⟩), (.var 26 ⟨109,29,109,30⟩), (.var 44 ⟨109,32,109,34⟩), (.var 45 ⟨109,36,109,38⟩)] [] ⟨109,13,109,25⟩ ⟨109,13,109,39⟩) ⟨109,8,109,39⟩)] [ (.asg (.name 44 ⟨111,8,111,10⟩) (.gcall 7 47 [(.var 9 ⟨111,26,111,27⟩), (.vcall 46 [(.var 26 ⟨111,33,111,34⟩)] ⟨111,29,111,32⟩ ⟨111,29,111,35⟩), (.var 44 ⟨111,37,111,39⟩), (.var 45 ⟨111,41,111,43⟩)] [(.mk 46 (.var 46 ⟨111,49,111,52⟩) ⟨111,45,111,52⟩)] ⟨111,13,111,25⟩ ⟨111,13,111,53⟩) ⟨111,8,111,53⟩)] ⟨108,4,111,53⟩), (.expm .insert (.var 9 ⟨112,4,112,5⟩) [(.var 44 ⟨112,13,112,15⟩), (.var 26 ⟨112,17,112,18⟩)] ⟨112,4,112,12⟩ ⟨112,4,112,19⟩ ⟨112,4,112,19⟩)]
noncomputable def f6 : Fn := { nmk := 48, ps := [(9, ⟨107,17,107,18⟩), (26, ⟨107,20,107,21⟩), (44, ⟨107,23,107,25⟩), (45, ⟨107,29,107,31⟩)], df := [(.cst (.int 0) (.int 0) ⟨107,26,107,27⟩), (.cst .none .none ⟨107,32,107,36⟩)], ko := [(46, ⟨107,41,107,44⟩)], kdf := [(.cst .none .none ⟨107,45,107,49⟩)], body := b6, kd := [(9, .loc), (26, .loc), (44, .loc), (45, .loc), (46, .loc), (47, .glb)], mo := [], pure := false, p := ⟨107,0,112,19⟩ }
noncomputable def b7 : List S := [ (.ifs (.cmp (.var 44 ⟨114,7,114,9⟩) .Lt (.cst (.int 0) (.int 0) ⟨114,12,114,13⟩) ⟨114,7,114,13⟩) [ (.raw (PySem.Stmt.Raise (exc := (some (PySem.Expr.Call (func := (PySem.Expr.Name "ValueError" ⟨115, 14, 115, 24⟩)) (args := [(PySem.Expr.Constant (PySem.Const.str "lo must be non-negative") 0 ⟨115, 25, 115, 50⟩)]) (keywords := []) (pos := ⟨115, 14, 115, 51⟩)))) (cause := none) (pos := ⟨115, 8, 115, 51⟩)))] [ ] ⟨114,4,115,51⟩), (.ifs (.cmp (.var 45 ⟨116,7,116,9⟩) .Is (.cst .none .none ⟨116,13,116,17⟩) ⟨116,7,116,17⟩) [ (.asg (.name 45 ⟨117,8,117,10⟩) (.bcall .len [(.var 9 ⟨117,17,117,18⟩)] ⟨117,13,117,16⟩ ⟨117,13,117,19⟩) ⟨117,8,117,19⟩)] [ ] ⟨116,4,117,19⟩), (.ifs (.cmp (.var 46 ⟨118,7,118,10⟩) .Is (.cst .none .none ⟨118,14,118,18⟩) ⟨118,7,118,18⟩) [ (.whil (.cmp (.var 44 ⟨119,14,119,16⟩) .Lt (.var 45 ⟨119,19,119,21⟩) ⟨119,14,119,21⟩) [ (.asg (.name 29 ⟨120,12,120,15⟩) (.bin (.bin (.var 44 ⟨120,19,120,21⟩) .Add (.var 45 ⟨120,24,120,26⟩) ⟨120,19,120,26⟩) .FloorDiv (.cst (.int 2) (.int 2) ⟨120,31,120,32⟩) ⟨120,18,120,32⟩) ⟨120,12,120,32⟩), (.ifs (.cmp (.var 26 ⟨121,15,121,16⟩) .Lt (.idx (.var 9 ⟨121,19,121,20⟩) (.var 29 ⟨121,21,121,24⟩) ⟨121,19,121,25⟩) ⟨121,15,121,25⟩) [ (.asg (.name 45 ⟨122,16,122,18⟩) (.var 29 ⟨122,21,122,24⟩) ⟨122,16,122,24⟩)] [ (.asg (.name 44 ⟨124,16,124,18⟩) (.bin (.var 29 ⟨124,21,124,24⟩) .Add (.cst (.int 1) (.int 1) ⟨124,27,124,28⟩) ⟨124,21,124,28⟩) ⟨124,16,124,28⟩)] ⟨121,12,124,28⟩)] ⟨119,8,124,28⟩)] [ (.whil Zt19 Zt20 ⟨126,8,131,28⟩)] ⟨118,4,131,28⟩), (.ret (.var 44 ⟨132,11,132,13⟩) ⟨132,4,132,13⟩)]
noncomputable def f7 : Fn := { nmk := 47, ps := [(9, ⟨113,17,113,18⟩), (26, ⟨113,20,113,21⟩), (44, ⟨113,23,113,25⟩), (45, ⟨113,29,113,31⟩)], df := [(.cst (.int 0) (.int 0) ⟨113,26,113,27⟩), (.cst .none .none ⟨113,32,113,36⟩)], ko := [(46, ⟨113,41,113,44⟩)], kdf := [(.cst .none .none ⟨113,45,113,49⟩)], body := b7, kd := [(9, .loc), (26, .loc), (44, .loc), (45, .loc), (46, .loc), (29, .loc), (49, .glb), (8, .glb)], mo := [], pure := true, p := ⟨113,0,132,13⟩ }
noncomputable def b8 : List S := [ (.ifs (.cmp (.var 44 ⟨134,7,134,9⟩) .Lt (.cst (.int 0) (.int 0) ⟨134,12,134,13⟩) ⟨134,7,134,13⟩) [ (.raw (PySem.Stmt.Raise (exc := (some (PySem.Expr.Call (func := (PySem.Expr.Name "ValueError" ⟨135, 14, 135, 24⟩)) (args := [(PySem.Expr.Constant (PySem.Const.str "lo must be non-negative") 0 ⟨135, 25, 135, 50⟩)]) (keywords := []) (pos := ⟨135, 14, 135, 51⟩)))) (cause := none) (pos := ⟨135, 8, 135, 51⟩)))] [ ] ⟨134,4,135,51⟩), (.ifs (.cmp (.var 45 ⟨136,7,136,9⟩) .Is (.cst .none .none ⟨136,13,136,17⟩) ⟨136,7,136,17⟩) [ (.asg (.name 45 ⟨137,8,137,10⟩) (.bcall .len [(.var 9 ⟨137,17,137,18⟩)] ⟨137,13,137,16⟩ ⟨137,13,137,19⟩) ⟨137,8,137,19⟩)] [ ] ⟨136,4,137,19⟩), (.ifs (.cmp (.var 46 ⟨138,7,138,10⟩) .Is (.cst .none .none ⟨138,14,138,18⟩) ⟨138,7,138,18⟩) [ (.whil (.cmp (.var 44 ⟨139,14,139,16⟩) .Lt (.var 45 ⟨139,19,139,21⟩) ⟨139,14,139,21⟩) [ (.asg (.name 29 ⟨140,12,140,15⟩) (.bin (.bin (.var 44 ⟨140,19,140,21⟩) .Add (.var 45 ⟨140,24,140,26⟩) ⟨140,19,140,26⟩) .FloorDiv (.cst (.int 2) (.int 2) ⟨140,31,140,32⟩) ⟨140,18,140,32⟩) ⟨140,12,140,32⟩), (.ifs (.cmp (.idx (.var 9 ⟨141,15,141,16⟩) (.var 29 ⟨141,17,141,20⟩) ⟨141,15,141,21⟩) .Lt (.var 26 ⟨141,24,141,25⟩) ⟨141,15,141,25⟩) [ (.asg (.name 44 ⟨142,16,142,18⟩) (.bin (.var 29 ⟨142,21,142,24⟩) .Add (.cst (.int 1) (.int 1) ⟨142,27,142,28⟩) ⟨142,21,142,28⟩) ⟨142,16,142,28⟩)] [ (.asg (.name 45 ⟨144,16,144,18⟩) (.var 29 ⟨144,21,144,24⟩) ⟨144,16,144,24⟩)] ⟨141,12,144,24⟩)] ⟨139,8,144,24⟩)] [ (.whil Zt21 Zt22 ⟨146,8,151,24⟩)] ⟨138,4,151,24⟩), (.ret (.var 44 ⟨152,11,152,13⟩) ⟨152,4,152,13⟩)]
noncomputable def f8 : Fn := { nmk := 50, ps := [(9, ⟨133,16,133,17⟩), (26, ⟨133,19,133,20⟩), (44, ⟨133,22,133,24⟩), (45, ⟨133,28,133,30⟩)], df := [(.cst (.int 0) (.int 0) ⟨133,25,133,26⟩), (.cst .none .none ⟨133,31,133,35⟩)], ko := [(46, ⟨133,40,133,43⟩)], kdf := [(.cst .none .none ⟨133,44,133,48⟩)], body := b8, kd := [(9, .loc), (26, .loc), (44, .loc), (45, .loc), (46, .loc), (29, .loc), (49, .glb), (8, .glb)], mo := [], pure := true, p := ⟨133,0,152,13⟩ }
noncomputable def b9 : List S := [ (.asg (.name 52 ⟨155,4,155,8⟩) (.bcall .max [(.var 19 ⟨155,15,155,16⟩), (.var 51 ⟨155,18,155,19⟩), (.var 10 ⟨155,21,155,22⟩)] ⟨155,11,155,14⟩ ⟨155,11,155,23⟩) ⟨155,4,155,23⟩), (.asg (.name 53 ⟨156,4,156,8⟩) (.bcall .min [(.var 19 ⟨156,15,156,16⟩), (.var 51 ⟨156,18,156,19⟩), (.var 10 ⟨156,21,156,22⟩)] ⟨156,11,156,14⟩ ⟨156,11,156,23⟩) ⟨156,4,156,23⟩), (.asg (.name 54 ⟨157,4,157,8⟩) (.bin (.var 52 ⟨157,11,157,15⟩) .Add (.var 53 ⟨157,18,157,22⟩) ⟨157,11,157,22⟩) ⟨157,4,157,22⟩), (.asg (.name 55 ⟨158,4,158,10⟩) (.bin (.var 52 ⟨158,13,158,17⟩) .Sub (.var 53 ⟨158,20,158,24⟩) ⟨158,13,158,24⟩) ⟨158,4,158,24⟩), (.asg (.name 56 ⟨159,4,159,5⟩) (.bin (.var 54 ⟨159,8,159,12⟩) .Div (.cst (.float 0x4000000000000000) (.flt (.dy 2048)) ⟨159,15,159,18⟩) ⟨159,8,159,18⟩) ⟨159,4,159,18⟩), (.ifs (.cmp (.var 53 ⟨160,7,160,11⟩) .Eq (.var 52 ⟨160,15,160,19⟩) ⟨160,7,160,19⟩) [ (.ret (.tupl [(.cst (.float 0x0000000000000000) (.flt (.dy 0)) ⟨161,16,161,19⟩), (.var 56 ⟨161,21,161,22⟩), (.cst (.float 0x0000000000000000) (.flt (.dy 0)) ⟨161,24,161,27⟩)] ⟨161,15,161,28⟩) ⟨161,8,161,28⟩)] [ ] ⟨160,4,161,28⟩), (.ifs (.cmp (.var 56 ⟨162,7,162,8⟩) .LtE (.cst (.float 0x3fe0000000000000) (.flt (.dy 512)) ⟨162,12,162,15⟩) ⟨162,7,162,15⟩) [ (.asg (.name 57 ⟨163,8,163,9⟩) (.bin (.var 55 ⟨163,12,163,18⟩) .Div (.var 54 ⟨163,21,163,25⟩) ⟨163,12,163,25⟩) ⟨163,8,163,25⟩)] [ (.asg (.name 57 ⟨165,8,165,9⟩) (.bin (.var 55 ⟨165,12,165,18⟩) .Div (.bin (.bin (.cst (.float 0x4000000000000000) (.flt (.dy 2048)) ⟨165,22,165,25⟩) .Sub (.var 52 ⟨165,28,165,32⟩) ⟨165,22,165,32⟩) .Sub (.var 53 ⟨165,35,165,39⟩) ⟨165,22,165,39⟩) ⟨165,12,165,40⟩) ⟨165,8,165,40⟩)] ⟨162,4,165,40⟩), (.asg (.name 58 ⟨166,4,166,6⟩) (.bin (.bin (.var 52 ⟨166,10,166,14⟩) .Sub (.var 19 ⟨166,17,166,18⟩) ⟨166,10,166,18⟩) .Div (.var 55 ⟨166,22,166,28⟩) ⟨166,9,166,28⟩) ⟨166,4,166,28⟩), (.asg (.name 59 ⟨167,4,167,6⟩) (.bin (.bin (.var 52 ⟨167,10,167,14⟩) .Sub (.var 51 ⟨167,17,167,18⟩) ⟨167,10,167,18⟩) .Div (.var 55 ⟨167,22,167,28⟩) ⟨167,9,167,28⟩) ⟨167,4,167,28⟩), (.asg (.name 60 ⟨168,4,168,6⟩) (.bin (.bin (.var 52 ⟨168,10,168,14⟩) .Sub (.var 10 ⟨168,17,168,18⟩) ⟨168,10,168,18⟩) .Div (.var 55 ⟨168,22,168,28⟩) ⟨168,9,168,28⟩) ⟨168,4,168,28⟩), (.ifs (.cmp (.var 19 ⟨169,7,169,8⟩) .Eq (.var 52 ⟨169,12,169,16⟩) ⟨169,7,169,16⟩) [ (.asg (.name 61 ⟨170,8,170,9⟩) (.bin (.var 60 ⟨170,12,170,14⟩) .Sub (.var 59 ⟨170,17,170,19⟩) ⟨170,12,170,19⟩) ⟨170,8,170,19⟩)] [ (.ifs (.cmp (.var 51 ⟨171,9,171,10⟩) .Eq (.var 52 ⟨171,14,171,18⟩) ⟨171,9,171,18⟩) [ (.asg (.name 61 ⟨172,8,172,9⟩) (.bin (.bin (.cst (.float 0x4000000000000000) (.flt (.dy 2048)) ⟨172,12,172,15⟩) .Add (.var 58 ⟨172,18,172,20⟩) ⟨172,12,172,20⟩) .Sub (.var 60 ⟨172,23,172,25⟩) ⟨172,12,172,25⟩) ⟨172,8,172,25⟩)] [ (.asg (.name 61 ⟨174,8,174,9⟩) (.bin (.bin (.cst (.float 0x4010000000000000) (.flt (.dy 4096)) ⟨174,12,174,15⟩) .Add (.var 59 ⟨174,18,174,20⟩) ⟨174,12,174,20⟩) .Sub (.var 58 ⟨174,23,174,25⟩) ⟨174,12,174,25⟩) ⟨174,8,174,25⟩)] ⟨171,4,174,25⟩)] ⟨169,4,174,25⟩), (.asg (.name 61 ⟨175,4,175,5⟩) (.bin (.bin (.var 61 ⟨175,8,175,9⟩) .Div (.cst (.float 0x4018000000000000) (.flt (.dy 6144)) ⟨175,12,175,15⟩) ⟨175,8,175,15⟩) .Mod (.cst (.float 0x3ff0000000000000) (.flt (.dy 1024)) ⟨175,18,175,21⟩) ⟨175,8,175,21⟩) ⟨175,4,175,21⟩), (.ret (.tupl [(.var 61 ⟨176,12,176,13⟩), (.var 56 ⟨176,15,176,16⟩), (.var 57 ⟨176,18,176,19⟩)] ⟨176,11,176,20⟩) ⟨176,4,176,20⟩)]
noncomputable def f9 : Fn := { nmk := 62, ps := [(19, ⟨154,15,154,16⟩), (51, ⟨154,18,154,19⟩), (10, ⟨154,21,154,22⟩)], df := [], ko := [], kdf := [], body := b9, kd := [(19, .loc), (51, .loc), (10, .loc), (52, .loc), (53, .loc), (54, .loc), (55, .loc), (56, .loc), (57, .loc), (58, .loc), (59, .loc), (60, .loc), (61, .loc), (63, .glb), (64, .glb)], mo := [], pure := true, p := ⟨154,0,176,20⟩ }
noncomputable def b10 : List S := [ (.asg (.name 52 ⟨178,4,178,8⟩) (.bcall .max [(.var 19 ⟨178,15,178,16⟩), (.var 51 ⟨178,18,178,19⟩), (.var 10 ⟨178,21,178,22⟩)] ⟨178,11,178,14⟩ ⟨178,11,178,23⟩) ⟨178,4,178,23⟩), (.asg (.name 53 ⟨179,4,179,8⟩) (.bcall .min [(.var 19 ⟨179,15,179,16⟩), (.var 51 ⟨179,18,179,19⟩), (.var 10 ⟨179,21,179,22⟩)] ⟨179,11,179,14⟩ ⟨179,11,179,23⟩) ⟨179,4,179,23⟩), (.asg (.name 55 ⟨180,4,180,10⟩) (.bin (.var 52 ⟨180,13,180,17⟩) .Sub (.var 53 ⟨180,20,180,24⟩) ⟨180,13,180,24⟩) ⟨180,4,180,24⟩), (.asg (.name 65 ⟨181,4,181,5⟩) (.var 52 ⟨181,8,181,12⟩) ⟨181,4,181,12⟩), (.ifs (.cmp (.var 53 ⟨182,7,182,11⟩) .Eq (.var 52 ⟨182,15,182,19⟩) ⟨182,7,182,19⟩) [ (.ret (.tupl [(.cst (.float 0x0000000000000000) (.flt (.dy 0)) ⟨183,16,183,19⟩), (.cst (.float 0x0000000000000000) (.flt (.dy 0)) ⟨183,21,183,24⟩), (.var 65 ⟨183,26,183,27⟩)] ⟨183,15,183,28⟩) ⟨183,8,183,28⟩)] [ ] ⟨182,4,183,28⟩), (.asg (.name 57 ⟨184,4,184,5⟩) (.bin (.var 55 ⟨184,8,184,14⟩) .Div (.var 52 ⟨184,17,184,21⟩) ⟨184,8,184,21⟩) ⟨184,4,184,21⟩), (.asg (.name 58 ⟨185,4,185,6⟩) (.bin (.bin (.var 52 ⟨185,10,185,14⟩) .Sub (.var 19 ⟨185,17,185,18⟩) ⟨185,10,185,18⟩) .Div (.var 55 ⟨185,22,185,28⟩) ⟨185,9,185,28⟩) ⟨185,4,185,28⟩), (.asg (.name 59 ⟨186,4,186,6⟩) (.bin (.bin (.var 52 ⟨186,10,186,14⟩) .Sub (.var 51 ⟨186,17,186,18⟩) ⟨186,10,186,18⟩) .Div (.var 55 ⟨186,22,186,28⟩) ⟨186,9,186,28⟩) ⟨186,4,186,28⟩), (.asg (.name 60 ⟨187,4,187,6⟩) (.bin (.bin (.var 52 ⟨187,10,187,14⟩) .Sub (.var 10 ⟨187,17,187,18⟩) ⟨187,10,187,18⟩) .Div (.var 55 ⟨187,22,187,28⟩) ⟨187,9,187,28⟩) ⟨187,4,187,28⟩), (.ifs (.cmp (.var 19 ⟨188,7,188,8⟩) .Eq (.var 52 ⟨188,12,188,16⟩) ⟨188,7,188,16⟩) [ (.asg (.name 61 ⟨189,8,189,9⟩) (.bin (.var 60 ⟨189,12,189,14⟩) .Sub (.var 59 ⟨189,17,189,19⟩) ⟨189,12,189,19⟩) ⟨189,8,189,19⟩)] [ (.ifs (.cmp (.var 51 ⟨190,9,190,10⟩) .Eq (.var 52 ⟨190,14,190,18⟩) ⟨190,9,190,18⟩) [ (.asg (.name 61 ⟨191,8,191,9⟩) (.bin (.bin (.cst (.float 0x4000000000000000) (.flt (.dy 2048)) ⟨191,12,191,15⟩) .Add (.var 58 ⟨191,18,191,20⟩) ⟨191,12,191,20⟩) .Sub (.var 60 ⟨191,23,191,25⟩) ⟨191,12,191,25⟩) ⟨191,8,191,25⟩)] [ (.asg (.name 61 ⟨193,8,193,9⟩) (.bin (.bin (.cst (.float 0x4010000000000000) (.flt (.dy 4096)) ⟨193,12,193,15⟩) .Add (.var 59 ⟨193,18,193,20⟩) ⟨193,12,193,20⟩) .Sub (.var 58 ⟨193,23,193,25⟩) ⟨193,12,193,25⟩) ⟨193,8,193,25⟩)] ⟨190,4,193,25⟩)] ⟨188,4,193,25⟩), (.asg (.name 61 ⟨194,4,194,5⟩) (.bin (.bin (.var 61 ⟨194,8,194,9⟩) .Div (.cst (.float 0x4018000000000000) (.flt (.dy 6144)) ⟨194,12,194,15⟩) ⟨194,8,194,15⟩) .Mod (.cst (.float 0x3ff0000000000000) (.flt (.dy 1024)) ⟨194,18,194,21⟩) ⟨194,8,194,21⟩) ⟨194,4,194,21⟩), (.ret (.tupl [(.var 61 ⟨195,12,195,13⟩), (.var 57 ⟨195,15,195,16⟩), (.var 65 ⟨195,18,195,19⟩)] ⟨195,11,195,20⟩) ⟨195,4,195,20⟩)]
noncomputable def f10 : Fn := { nmk := 66, ps := [(19, ⟨177,15,177,16⟩), (51, ⟨177,18,177,19⟩), (10, ⟨177,21,177,22⟩)], df := [], ko := [], kdf := [], body := b10, kd := [(19, .loc), (51, .loc), (10, .loc), (52, .loc), (53, .loc), (55, .loc), (65, .loc), (57, .loc), (58, .loc), (59, .loc), (60, .loc), (61, .loc), (63, .glb), (64, .glb)], mo := [], pure := true, p := ⟨177,0,195,20⟩ }
noncomputable def b11 : List S := [ (.ifs (.cmp (.var 57 ⟨197,7,197,8⟩) .Eq (.cst (.float 0x0000000000000000) (.flt (.dy 0)) ⟨197,12,197,15⟩) ⟨197,7,197,15⟩) [ (.ret (.tupl [(.var 65 ⟨198,16,198,17⟩), (.var 65 ⟨198,19,198,20⟩), (.var 65 ⟨198,22,198,23⟩)] ⟨198,15,198,24⟩) ⟨198,8,198,24⟩)] [ ] ⟨197,4,198,24⟩), (.asg (.name 67 ⟨199,4,199,5⟩) (.bcall .int [(.bin (.var 61 ⟨199,12,199,13⟩) .Mult (.cst (.float 0x4018000000000000) (.flt (.dy 6144)) ⟨199,16,199,19⟩) ⟨199,12,199,19⟩)] ⟨199,8,199,11⟩ ⟨199,8,199,20⟩) ⟨199,4,199,20⟩), (.asg (.name 68 ⟨200,4,200,5⟩) (.bin (.bin (.var 61 ⟨200,8,200,9⟩) .Mult (.cst (.float 0x4018000000000000) (.flt (.dy 6144)) ⟨200,12,200,15⟩) ⟨200,8,200,15⟩) .Sub (.var 67 ⟨200,18,200,19⟩) ⟨200,8,200,19⟩) ⟨200,4,200,19⟩), (.asg (.name 69 ⟨201,4,201,5⟩) (.bin (.var 65 ⟨201,8,201,9⟩) .Mult (.bin (.cst (.float 0x3ff0000000000000) (.flt (.dy 1024)) ⟨201,13,201,16⟩) .Sub (.var 57 ⟨201,19,201,20⟩) ⟨201,13,201,20⟩) ⟨201,8,201,21⟩) ⟨201,4,201,21⟩), (.asg (.name 39 ⟨202,4,202,5⟩) (.bin (.var 65 ⟨202,8,202,9⟩) .Mult (.bin (.cst (.float 0x3ff0000000000000) (.flt (.dy 1024)) ⟨202,13,202,16⟩) .Sub (.bin (.var 57 ⟨202,19,202,20⟩) .Mult (.var 68 ⟨202,23,202,24⟩) ⟨202,19,202,24⟩) ⟨202,13,202,24⟩) ⟨202,8,202,25⟩) ⟨202,4,202,25⟩), (.asg (.name 70 ⟨203,4,203,5⟩) (.bin (.var 65 ⟨203,8,203,9⟩) .Mult (.bin (.cst (.float 0x3ff0000000000000) (.flt (.dy 1024)) ⟨203,13,203,16⟩) .Sub (.bin (.var 57 ⟨203,19,203,20⟩) .Mult (.bin (.cst (.float 0x3ff0000000000000) (.flt (.dy 1024)) ⟨203,24,203,27⟩) .Sub (.var 68 ⟨203,30,203,31⟩) ⟨203,24,203,31⟩) ⟨203,19,203,32⟩) ⟨203,13,203,32⟩) ⟨203,8,203,33⟩) ⟨203,4,203,33⟩), (.asg (.name 67 ⟨204,4,204,5⟩) (.bin (.var 67 ⟨204,8,204,9⟩) .Mod (.cst (.int 6) (.int 6) ⟨204,12,204,13⟩) ⟨204,8,204,13⟩) ⟨204,4,204,13⟩), (.ifs (.cmp (.var 67 ⟨205,7,205,8⟩) .Eq (.cst (.int 0) (.int 0) ⟨205,12,205,13⟩) ⟨205,7,205,13⟩) [ (.ret (.tupl [(.var 65 ⟨206,16,206,17⟩), (.var 70 ⟨206,19,206,20⟩), (.var 69 ⟨206,22,206,23⟩)] ⟨206,15,206,24⟩) ⟨206,8,206,24⟩)] [ ] ⟨205,4,206,24⟩), (.ifs (.cmp (.var 67 ⟨207,7,207,8⟩) .Eq (.cst (.int 1) (.int 1) ⟨207,12,207,13⟩) ⟨207,7,207,13⟩) [ (.ret (.tupl [(.var 39 ⟨208,16,208,17⟩), (.var 65 ⟨208,19,208,20⟩), (.var 69 ⟨208,22,208,23⟩)] ⟨208,15,208,24⟩) ⟨208,8,208,24⟩)] [ ] ⟨207,4,208,24⟩), (.ifs (.cmp (.var 67 ⟨209,7,209,8⟩) .Eq (.cst (.int 2) (.int 2) ⟨209,12,209,13⟩) ⟨209,7,209,13⟩) [ (.ret (.tupl [(.var 69 ⟨210,16,210,17⟩), (.var 65 ⟨210,19,210,20⟩), (.var 70 ⟨210,22,210,23⟩)] ⟨210,15,210,24⟩) ⟨210,8,210,24⟩)] [ ] ⟨209,4,210,24⟩), (.ifs (.cmp (.var 67 ⟨211,7,211,8⟩) .Eq (.cst (.int 3) (.int 3) ⟨211,12,211,13⟩) ⟨211,7,211,13⟩) [ (.ret (.tupl [(.var 69 ⟨212,16,212,17⟩), (.var 39 ⟨212,19,212,20⟩), (.var 65 ⟨212,22,212,23⟩)] ⟨212,15,212,24⟩) ⟨212,8,212,24⟩)] [ ] ⟨211,4,212,24⟩), (.ifs (.cmp (.var 67 ⟨213,7,213,8⟩) .Eq (.cst (.int 4) (.int 4) ⟨213,12,213,13⟩) ⟨213,7,213,13⟩) [ (.ret (.tupl [(.var 70 ⟨214,16,214,17⟩), (.var 69 ⟨214,19,214,20⟩), (.var 65 ⟨214,22,214,23⟩)] ⟨214,15,214,24⟩) ⟨214,8,214,24⟩)] [ ] ⟨213,4,214,24⟩), (.ifs (.cmp (.var 67 ⟨215,7,215,8⟩) .Eq (.cst (.int 5) (.int 5) ⟨215,12,215,13⟩) ⟨215,7,215,13⟩) [ (.ret (.tupl [(.var 65 ⟨216,16,216,17⟩), (.var 69 ⟨216,19,216,20⟩), (.var 39 ⟨216,22,216,23⟩)] ⟨216,15,216,24⟩) ⟨216,8,216,24⟩)] [ ] ⟨215,4,216,24⟩)]
noncomputable def f11 : Fn := { nmk := 71, ps := [(61, ⟨196,15,196,16⟩), (57, ⟨196,18,196,19⟩), (65, ⟨196,21,196,22⟩)], df := [], ko := [], kdf := [], body := b11, kd := [(61, .loc), (57, .loc), (65, .loc), (67, .loc), (68, .loc), (69, .loc), (39, .loc), (70, .loc), (72, .glb)], mo := [], pure := true, p := ⟨196,0,216,24⟩ }
noncomputable def b12 : List S := [ (.asg (.name 75 ⟨219,4,219,9⟩) (.comp Zt23 [(.mk (.name 76 ⟨219,34,219,40⟩) (.pl (.slc (.var 73 ⟨219,44,219,50⟩) .no (.so (.cst (.int 60) (.int 60) ⟨219,52,219,54⟩)) .no ⟨219,51,219,54⟩ ⟨219,44,219,55⟩)) [])] [(77, .loc), (76, .loc)] ⟨219,12,219,56⟩) ⟨219,4,219,56⟩), (.ret (.comp Zt24 [(.mk Zt17 Zt18 [])] [(77, .loc), (78, .loc), (79, .loc), (80, .glb), (8, .glb), (74, .fre), (75, .fre)] ⟨220,11,220,89⟩) ⟨220,4,220,89⟩)]
noncomputable def f12 : Fn := { nmk := 81, ps := [(73, ⟨218,15,218,21⟩), (74, ⟨218,23,218,29⟩)], df := [], ko := [], kdf := [], body := b12, kd := [(73, .loc), (74, .cel), (75, .cel), (82, .glb)], mo := [fast "script", fast "firsts", fast "number", fast "heads", fast "place", fast "first"], pure := true, p := ⟨218,0,220,89⟩ }
noncomputable def b13 : List S := [ (.asw [(85, ⟨222,4,222,13⟩), (86, ⟨222,15,222,20⟩)] ⟨222,4,222,20⟩ [(.list [] ⟨222,24,222,26⟩), (.list [(.un .USub (.var 83 ⟨222,30,222,34⟩) ⟨222,29,222,34⟩), (.var 84 ⟨222,36,222,40⟩)] ⟨222,28,222,41⟩)] ⟨222,23,222,42⟩ ⟨222,4,222,42⟩), (.fors (.name 87 ⟨223,8,223,16⟩) (.pl (.bcall .range [(.var 83 ⟨223,26,223,30⟩)] ⟨223,20,223,25⟩ ⟨223,20,223,31⟩)) [ (.tryd ⟨5, 42, (.un .USub (.idx (.var 86 ⟨225,41,225,46⟩) (.un .USub (.cst (.int 2) (.int 2) ⟨225,48,225,49⟩) ⟨225,47,225,49⟩) ⟨225,41,225,50⟩) ⟨225,40,225,50⟩), (.idx (.var 86 ⟨225,52,225,57⟩) (.un .USub (.cst (.int 1) (.int 1) ⟨225,59,225,60⟩) ⟨225,58,225,60⟩) ⟨225,52,225,61⟩), (88, ⟨225,12,225,20⟩), (89, ⟨225,22,225,26⟩), ⟨225,12,225,26⟩, ⟨225,29,225,39⟩, ⟨225,29,225,62⟩, ⟨225,12,225,62⟩, ⟨226,15,226,32⟩, 90, ⟨226,8,227,49⟩, (.var 85 ⟨227,20,227,29⟩), (.var 86 ⟨227,31,227,36⟩), ⟨227,38,227,41⟩, ⟨227,42,227,47⟩, ⟨227,38,227,48⟩, ⟨227,19,227,49⟩, ⟨227,12,227,49⟩, ⟨224,8,227,49⟩⟩), (.expm .append (.var 85 ⟨228,8,228,17⟩) [(.var 88 ⟨228,25,228,33⟩)] ⟨228,8,228,24⟩ ⟨228,8,228,34⟩ ⟨228,8,228,34⟩), (.expm .append (.var 86 ⟨229,8,229,13⟩) [(.un .USub (.var 89 ⟨229,22,229,26⟩) ⟨229,21,229,26⟩)] ⟨229,8,229,20⟩ ⟨229,8,229,27⟩ ⟨229,8,229,27⟩)] ⟨223,4,229,27⟩), (.ret (.tupl [(.var 85 ⟨230,12,230,21⟩), (.var 86 ⟨230,23,230,28⟩), (.cst (.str "no end") (.str [110,111,32,101,110,100]) ⟨230,30,230,38⟩)] ⟨230,11,230,39⟩) ⟨230,4,230,39⟩)]
noncomputable def f13 : Fn := { nmk := 91, ps := [(83, ⟨221,13,221,17⟩), (84, ⟨221,19,221,23⟩)], df := [], ko := [], kdf := [], body := b13, kd := [(83, .loc), (84, .loc), (85, .loc), (86, .loc), (87, .loc), (88, .loc), (89, .loc), (90, .loc), (92, .glb), (42, .glb), (43, .glb), (93, .glb)], mo := [], pure := true, p := ⟨221,0,230,39⟩ }
noncomputable def b14 : List S := [ (.asg (.name 94 ⟨232,4,232,10⟩) (.list [(.cst (.int 0) (.int 0) ⟨232,14,232,15⟩), (.cst (.int 1) (.int 1) ⟨232,17,232,18⟩)] ⟨232,13,232,19⟩) ⟨232,4,232,19⟩), (.fors (.name 88 ⟨233,8,233,16⟩) (.pl (.var 85 ⟨233,20,233,29⟩)) [ (.expm .append (.var 94 ⟨234,8,234,14⟩) [(.bin (.bin (.var 88 ⟨234,22,234,30⟩) .Mult (.idx (.var 94 ⟨234,33,234,39⟩) (.un .USub (.cst (.int 1) (.int 1) ⟨234,41,234,42⟩) ⟨234,40,234,42⟩) ⟨234,33,234,43⟩) ⟨234,22,234,43⟩) .Add (.idx (.var 94 ⟨234,46,234,52⟩) (.un .USub (.cst (.int 2) (.int 2) ⟨234,54,234,55⟩) ⟨234,53,234,55⟩) ⟨234,46,234,56⟩) ⟨234,22,234,56⟩)] ⟨234,8,234,21⟩ ⟨234,8,234,57⟩ ⟨234,8,234,57⟩)] ⟨233,4,234,57⟩), (.ret (.var 94 ⟨235,11,235,17⟩) ⟨235,4,235,17⟩)]
noncomputable def f14 : Fn := { nmk := 95, ps := [(85, ⟨231,16,231,25⟩)], df := [], ko := [], kdf := [], body := b14, kd := [(85, .loc), (94, .loc), (88, .loc)], mo := [], pure := true, p := ⟨231,0,235,17⟩ }
noncomputable def b15 : List S := [ (.asg (.name 96 ⟨237,4,237,9⟩) (.list [(.tupl [(.tupl [] ⟨237,14,237,16⟩), (.cst (.str "") (.str []) ⟨237,18,237,20⟩)] ⟨237,13,237,21⟩)] ⟨237,12,237,22⟩) ⟨237,4,237,22⟩), (.fors (.name 78 ⟨238,8,238,13⟩) (.pl (.bcall .range [(.bin (.bcall .len [(.var 85 ⟨238,27,238,36⟩)] ⟨238,23,238,26⟩ ⟨238,23,238,37⟩) .Sub (.cst (.int 1) (.int 1) ⟨238,40,238,41⟩) ⟨238,23,238,41⟩), (.un .USub (.cst (.int 1) (.int 1) ⟨238,44,238,45⟩) ⟨238,43,238,45⟩), (.un .USub (.cst (.int 1) (.int 1) ⟨238,48,238,49⟩) ⟨238,47,238,49⟩)] ⟨238,17,238,22⟩ ⟨238,17,238,50⟩)) [ (.asg (.tup [(97, ⟨239,8,239,14⟩), (98, ⟨239,16,239,23⟩)] ⟨239,8,239,23⟩) (.tupl [(.bcall .chr [(.bin (.cst (.int 97) (.int 97) ⟨239,31,239,33⟩) .Add (.var 78 ⟨239,36,239,41⟩) ⟨239,31,239,41⟩)] ⟨239,27,239,30⟩ ⟨239,27,239,42⟩), (.bin (.idx (.var 85 ⟨239,44,239,53⟩) (.var 78 ⟨239,54,239,59⟩) ⟨239,44,239,60⟩) .Add (.ite (.var 78 ⟨239,69,239,74⟩) (.cst (.int 1) (.int 1) ⟨239,64,239,65⟩) (.cst (.int 0) (.int 0) ⟨239,80,239,81⟩) ⟨239,64,239,81⟩) ⟨239,44,239,82⟩)] ⟨239,26,239,83⟩) ⟨239,8,239,83⟩), (.asc 96 ⟨240,8,240,13⟩ (.comp (.tupl [(.bin (.var 99 ⟨240,18,240,21⟩) .Add (.tupl [(.var 101 ⟨240,25,240,31⟩)] ⟨240,24,240,33⟩) ⟨240,18,240,33⟩), (.bin (.var 100 ⟨240,35,240,39⟩) .Add (.bin (.var 97 ⟨240,42,240,48⟩) .Mult (.var 101 ⟨240,51,240,57⟩) ⟨240,42,240,57⟩) ⟨240,35,240,57⟩)] ⟨240,17,240,58⟩) [(.mk (.tup [(99, ⟨240,63,240,66⟩), (100, ⟨240,68,240,72⟩)] ⟨240,63,240,72⟩) (.pl (.var 96 ⟨240,76,240,81⟩)) []), (.mk (.name 101 ⟨240,86,240,92⟩) (.pl (.bcall .range [(.var 98 ⟨240,102,240,109⟩)] ⟨240,96,240,101⟩ ⟨240,96,240,110⟩)) [])] [(77, .loc), (99, .loc), (100, .loc), (101, .loc), (92, .glb), (98, .fre), (97, .fre)] ⟨240,16,240,111⟩) ⟨240,8,240,111⟩), (.ifs (.cmp (.var 78 ⟨241,11,241,16⟩) .Lt (.bin (.bcall .len [(.var 85 ⟨241,23,241,32⟩)] ⟨241,19,241,22⟩ ⟨241,19,241,33⟩) .Sub (.cst (.int 1) (.int 1) ⟨241,36,241,37⟩) ⟨241,19,241,37⟩) ⟨241,11,241,37⟩) [ (.asg (.name 102 ⟨242,12,242,18⟩) (.bin (.bin (.bin (.cst (.str "...") (.str [46,46,46]) ⟨242,21,242,26⟩) .Add (.bin (.bcall .chr [(.bin (.cst (.int 98) (.int 98) ⟨242,33,242,35⟩) .Add (.var 78 ⟨242,38,242,43⟩) ⟨242,33,242,43⟩)] ⟨242,29,242,32⟩ ⟨242,29,242,44⟩) .Mult (.idx (.var 85 ⟨242,47,242,56⟩) (.bin (.var 78 ⟨242,57,242,62⟩) .Add (.cst (.int 1) (.int 1) ⟨242,65,242,66⟩) ⟨242,57,242,66⟩) ⟨242,47,242,67⟩) ⟨242,29,242,67⟩) ⟨242,21,242,67⟩) .Add (.var 97 ⟨242,70,242,76⟩) ⟨242,21,242,76⟩) .Add (.cst (.str "...") (.str [46,46,46]) ⟨242,79,242,84⟩) ⟨242,21,242,84⟩) ⟨242,12,242,84⟩), (.asc 96 ⟨243,12,243,17⟩ (.comp (.var 103 ⟨243,21,243,25⟩) [(.mk (.name 103 ⟨243,30,243,34⟩) (.pl (.var 96 ⟨243,38,243,43⟩)) [(.cmp (.gcall 0 7 [(.var 102 ⟨243,63,243,69⟩), (.idx (.var 103 ⟨243,71,243,75⟩) (.cst (.int 1) (.int 1) ⟨243,76,243,77⟩) ⟨243,71,243,78⟩)] [] ⟨243,47,243,62⟩ ⟨243,47,243,79⟩) .Is (.cst (.bool false) (.bool false) ⟨243,83,243,88⟩) ⟨243,47,243,88⟩)])] [(77, .loc), (103, .loc), (7, .glb), (102, .fre)] ⟨243,20,243,89⟩) ⟨243,12,243,89⟩)] [ ] ⟨241,8,243,89⟩)] ⟨238,4,243,89⟩), (.ret (.var 96 ⟨244,11,244,16⟩) ⟨244,4,244,16⟩)]
noncomputable def f15 : Fn := { nmk := 104, ps := [(85, ⟨236,18,236,27⟩)], df := [], ko := [], kdf := [], body := b15, kd := [(85, .loc), (96, .loc), (78, .loc), (97, .cel), (98, .cel), (102, .cel), (92, .glb), (8, .glb), (105, .glb)], mo := [fast "quotients", fast "grown", fast "place", fast "letter", fast "figures", fast "row", fast "text", fast "figure", fast "barred", fast "pair"], pure := true, p := ⟨236,0,244,16⟩ }
noncomputable def b16 : List S := [ (.ret (.bcall .sum [(.comp (.bin (.var 101 ⟨246,16,246,22⟩) .Mult (.var 76 ⟨246,25,246,31⟩) ⟨246,16,246,31⟩) [(.mk (.tup [(101, ⟨246,36,246,42⟩), (76, ⟨246,44,246,50⟩)] ⟨246,36,246,50⟩) (.zp (.var 99 ⟨246,58,246,61⟩) (.slc (.var 106 ⟨246,63,246,70⟩) (.so (.un .USub (.cst (.int 2) (.int 2) ⟨246,72,246,73⟩) ⟨246,71,246,73⟩)) (.so (.cst (.int 0) (.int 0) ⟨246,74,246,75⟩)) (.so (.un .USub (.cst (.int 1) (.int 1) ⟨246,77,246,78⟩) ⟨246,76,246,78⟩)) ⟨246,71,246,78⟩ ⟨246,63,246,79⟩) ⟨246,54,246,57⟩ ⟨246,54,246,80⟩) [])] [(77, .loc), (101, .loc), (76, .loc)] ⟨246,15,246,81⟩)] ⟨246,11,246,14⟩ ⟨246,11,246,82⟩) ⟨246,4,246,82⟩)]
noncomputable def f16 : Fn := { nmk := 107, ps := [(99, ⟨245,13,245,16⟩), (106, ⟨245,18,245,25⟩)], df := [], ko := [], kdf := [], body := b16, kd := [(99, .loc), (106, .loc), (80, .glb), (108, .glb)], mo := [fast "row", fast "numbers", fast "figure", fast "number"], pure := true, p := ⟨245,0,246,82⟩ }
noncomputable def b17 : List S := [ (.ret (.comp (.ite (.bin (.var 78 ⟨248,23,248,28⟩) .Mod (.cst (.int 2) (.int 2) ⟨248,31,248,32⟩) ⟨248,23,248,32⟩) (.un .USub (.var 101 ⟨248,13,248,19⟩) ⟨248,12,248,19⟩) (.var 101 ⟨248,38,248,44⟩) ⟨248,12,248,44⟩) [(.mk (.tup [(78, ⟨248,49,248,54⟩), (101, ⟨248,56,248,62⟩)] ⟨248,49,248,62⟩) (.en (.slc (.var 99 ⟨248,76,248,79⟩) .no .no (.so (.un .USub (.cst (.int 1) (.int 1) ⟨248,83,248,84⟩) ⟨248,82,248,84⟩)) ⟨248,80,248,84⟩ ⟨248,76,248,85⟩) ⟨248,66,248,75⟩ ⟨248,66,248,86⟩) [])] [(77, .loc), (78, .loc), (101, .loc)] ⟨248,11,248,87⟩) ⟨248,4,248,87⟩)]
noncomputable def f17 : Fn := { nmk := 109, ps := [(99, ⟨247,18,247,21⟩)], df := [], ko := [], kdf := [], body := b17, kd := [(99, .loc), (82, .glb)], mo := [fast "row", fast "place", fast "figure"], pure := true, p := ⟨247,0,248,87⟩ }
noncomputable def b18 : List S := [ (.asg (.name 98 ⟨250,4,250,11⟩) (.list [] ⟨250,14,250,16⟩) ⟨250,4,250,16⟩), (.fors (.name 110 ⟨251,8,251,13⟩) (.pl (.slc (.var 94 ⟨251,17,251,23⟩) (.so (.un .USub (.cst (.int 2) (.int 2) ⟨251,25,251,26⟩) ⟨251,24,251,26⟩)) (.so (.cst (.int 0) (.int 0) ⟨251,27,251,28⟩)) (.so (.un .USub (.cst (.int 1) (.int 1) ⟨251,30,251,31⟩) ⟨251,29,251,31⟩)) ⟨251,24,251,31⟩ ⟨251,17,251,32⟩)) [ (.asg (.tup [(101, ⟨252,8,252,14⟩), (76, ⟨252,16,252,22⟩)] ⟨252,8,252,22⟩) (.gcall 5 42 [(.var 76 ⟨252,36,252,42⟩), (.var 110 ⟨252,44,252,49⟩)] [] ⟨252,25,252,35⟩ ⟨252,25,252,50⟩) ⟨252,8,252,50⟩), (.expm .append (.var 98 ⟨253,8,253,15⟩) [(.var 101 ⟨253,23,253,29⟩)] ⟨253,8,253,22⟩ ⟨253,8,253,30⟩ ⟨253,8,253,30⟩)] ⟨251,4,253,30⟩), (.ret (.tupl [(.bcall .tuple [(.var 98 ⟨254,18,254,25⟩)] ⟨254,12,254,17⟩ ⟨254,12,254,26⟩), (.var 76 ⟨254,28,254,34⟩)] ⟨254,11,254,35⟩) ⟨254,4,254,35⟩)]
noncomputable def f18 : Fn := { nmk := 111, ps := [(76, ⟨249,17,249,23⟩), (94, ⟨249,25,249,31⟩)], df := [], ko := [], kdf := [], body := b18, kd := [(76, .loc), (94, .loc), (98, .loc), (110, .loc), (101, .loc), (42, .glb), (112, .glb)], mo := [], pure := true, p := ⟨249,0,254,35⟩ }
noncomputable def b19 : List S := [ (.ret (.cmp (.comp (.var 101 ⟨256,12,256,18⟩) [(.mk Zt9 Zt10 Zt11)] [(77, .loc), (101, .loc), (114, .loc)] ⟨256,11,256,70⟩) .Eq (.list [] ⟨256,74,256,76⟩) ⟨256,11,256,76⟩) ⟨256,4,256,76⟩)]
noncomputable def f19 : Fn := { nmk := 115, ps := [(99, ⟨255,18,255,21⟩), (113, ⟨255,23,255,28⟩)], df := [], ko := [], kdf := [], body := b19, kd := [(99, .loc), (113, .loc), (108, .glb)], mo := [fast "row", fast "least", fast "figure", fast "few"], pure := true, p := ⟨255,0,256,76⟩ }
noncomputable def b20 : List S := [ (.asg (.name 116 ⟨258,4,258,9⟩) (.gcall 12 81 [(.var 73 ⟨258,23,258,29⟩), (.tupl [(.cst (.int 7) (.int 7) ⟨258,32,258,33⟩), (.cst (.int 21) (.int 21) ⟨258,35,258,37⟩), (.cst (.int 44) (.int 44) ⟨258,39,258,41⟩), (.cst (.int 27) (.int 27) ⟨258,43,258,45⟩)] ⟨258,31,258,46⟩)] [] ⟨258,12,258,22⟩ ⟨258,12,258,47⟩) ⟨258,4,258,47⟩), Zt41, Zt42, (.asg (.tup [(85, ⟨261,4,261,13⟩), (86, ⟨261,15,261,20⟩), (119, ⟨261,22,261,27⟩)] ⟨261,4,261,27⟩) (.gcall 13 91 [(.var 83 ⟨261,39,261,43⟩), (.var 84 ⟨261,45,261,49⟩)] [] ⟨261,30,261,38⟩ ⟨261,30,261,50⟩) ⟨261,4,261,50⟩), (.asg (.name 94 ⟨262,4,262,10⟩) (.gcall 14 95 [(.var 85 ⟨262,25,262,34⟩)] [] ⟨262,13,262,24⟩ ⟨262,13,262,35⟩) ⟨262,4,262,35⟩), (.ifs (.bop .Or [(.cmp (.var 119 ⟨263,7,263,12⟩) .NotEq (.cst (.str "") (.str []) ⟨263,16,263,18⟩) ⟨263,7,263,18⟩), (.cmp (.idx (.var 94 ⟨263,22,263,28⟩) (.un .USub (.cst (.int 1) (.int 1) ⟨263,30,263,31⟩) ⟨263,29,263,31⟩) ⟨263,22,263,32⟩) .NotEq (.var 83 ⟨263,36,263,40⟩) ⟨263,22,263,40⟩)] ⟨263,7,263,40⟩) [ (.ret (.cst (.bool false) (.bool false) ⟨264,15,264,20⟩) ⟨264,8,264,20⟩)] [ ] ⟨263,4,264,20⟩), (.asg (.name 120 ⟨265,4,265,8⟩) (.gcall 15 104 [(.var 85 ⟨265,25,265,34⟩)] [] ⟨265,11,265,24⟩ ⟨265,11,265,35⟩) ⟨265,4,265,35⟩), (.ifs (.cmp (.comp (.gcall 16 107 [(.var 99 ⟨266,17,266,20⟩), (.var 94 ⟨266,22,266,28⟩)] [] ⟨266,8,266,16⟩ ⟨266,8,266,29⟩) [(.mk (.tup [(99, ⟨266,34,266,37⟩), (100, ⟨266,39,266,43⟩)] ⟨266,34,266,43⟩) (.pl (.var 120 ⟨266,47,266,51⟩)) [])] [(77, .loc), (99, .loc), (100, .loc), (107, .glb), (94, .fre)] ⟨266,7,266,52⟩) .NotEq (.bcall .list [(.bcall .range [(.var 83 ⟨266,67,266,71⟩)] ⟨266,61,266,66⟩ ⟨266,61,266,72⟩)] ⟨266,56,266,60⟩ ⟨266,56,266,73⟩) ⟨266,7,266,73⟩) [ (.ret (.cst (.bool false) (.bool false) ⟨267,15,267,20⟩) ⟨267,8,267,20⟩)] [ ] ⟨266,4,267,20⟩), (.asg (.tup [(121, ⟨268,4,268,9⟩), (122, ⟨268,11,268,15⟩)] ⟨268,4,268,15⟩) (.tupl [(.comp (.var 100 ⟨268,20,268,24⟩) [(.mk (.tup [(99, ⟨268,29,268,32⟩), (100, ⟨268,34,268,38⟩)] ⟨268,29,268,38⟩) (.pl (.var 120 ⟨268,42,268,46⟩)) [])] [(77, .loc), (99, .loc), (100, .loc)] ⟨268,19,268,47⟩), (.list [] ⟨268,49,268,51⟩)] ⟨268,18,268,52⟩) ⟨268,4,268,52⟩), Zt43, (.asg (.name 128 ⟨275,4,275,9⟩) (.list [] ⟨275,12,275,14⟩) ⟨275,4,275,14⟩), (.fors (.name 76 ⟨276,8,276,14⟩) (.pl (.bcall .range [(.var 83 ⟨276,24,276,28⟩)] ⟨276,18,276,23⟩ ⟨276,18,276,29⟩)) [ (.expc (.gcall 6 48 [(.var 128 ⟨277,21,277,26⟩), (.var 76 ⟨277,28,277,34⟩)] [(.mk 46 (.lam [(129, ⟨277,47,277,51⟩)] (.idx (.var 122 ⟨277,53,277,57⟩) (.var 129 ⟨277,58,277,62⟩) ⟨277,53,277,63⟩) [(129, .loc), (122, .fre)] [] ⟨277,40,277,63⟩) ⟨277,36,277,63⟩)] ⟨277,8,277,20⟩ ⟨277,8,277,64⟩) ⟨277,8,277,64⟩)] ⟨276,4,277,64⟩), (.ifs (.bin (.bcall .len [(.var 85 ⟨278,11,278,20⟩)] ⟨278,7,278,10⟩ ⟨278,7,278,21⟩) .Mod (.cst (.int 2) (.int 2) ⟨278,24,278,25⟩) ⟨278,7,278,25⟩) [ (.asg (.name 130 ⟨279,8,279,11⟩) (.gcall 7 47 [(.var 128 ⟨279,27,279,32⟩), (.bin (.bin (.var 83 ⟨279,35,279,39⟩) .Sub (.var 84 ⟨279,42,279,46⟩) ⟨279,35,279,46⟩) .Div (.var 83 ⟨279,50,279,54⟩) ⟨279,34,279,54⟩)] [(.mk 46 (.lam [(129, ⟨279,67,279,71⟩)] (.idx (.var 122 ⟨279,73,279,77⟩) (.var 129 ⟨279,78,279,82⟩) ⟨279,73,279,83⟩) [(129, .loc), (122, .fre)] [] ⟨279,60,279,83⟩) ⟨279,56,279,83⟩)] ⟨279,14,279,26⟩ ⟨279,14,279,84⟩) ⟨279,8,279,84⟩)] [ (.asg (.name 130 ⟨281,8,281,11⟩) (.gcall 8 50 [(.var 128 ⟨281,26,281,31⟩), (.bin (.bin (.var 83 ⟨281,34,281,38⟩) .Sub (.var 84 ⟨281,41,281,45⟩) ⟨281,34,281,45⟩) .Div (.var 83 ⟨281,49,281,53⟩) ⟨281,33,281,53⟩)] [(.mk 46 (.lam [(129, ⟨281,66,281,70⟩)] (.idx (.var 122 ⟨281,72,281,76⟩) (.var 129 ⟨281,77,281,81⟩) ⟨281,72,281,82⟩) [(129, .loc), (122, .fre)] [] ⟨281,59,281,82⟩) ⟨281,55,281,82⟩)] ⟨281,14,281,25⟩ ⟨281,14,281,83⟩) ⟨281,8,281,83⟩)] ⟨278,4,281,83⟩), (.asg (.name 131 ⟨282,4,282,8⟩) (.bin (.slc (.var 128 ⟨282,11,282,16⟩) (.so (.var 130 ⟨282,17,282,20⟩)) .no .no ⟨282,17,282,21⟩ ⟨282,11,282,22⟩) .Add (.slc (.var 128 ⟨282,25,282,30⟩) .no (.so (.var 130 ⟨282,32,282,35⟩)) .no ⟨282,31,282,35⟩ ⟨282,25,282,36⟩) ⟨282,11,282,36⟩) ⟨282,4,282,36⟩), (.ifs (.cmp (.var 131 ⟨283,7,283,11⟩) .NotEq (.sortk (.bcall .range [(.var 83 ⟨283,28,283,32⟩)] ⟨283,22,283,27⟩ ⟨283,22,283,33⟩) (.lam [(129, ⟨283,46,283,50⟩)] (.gcall 17 109 [(.idx (.idx (.var 120 ⟨283,66,283,70⟩) (.var 129 ⟨283,71,283,75⟩) ⟨283,66,283,76⟩) (.cst (.int 0) (.int 0) ⟨283,77,283,78⟩) ⟨283,66,283,79⟩)] [] ⟨283,52,283,65⟩ ⟨283,52,283,80⟩) [(129, .loc), (120, .fre), (109, .glb)] [] ⟨283,39,283,80⟩) ⟨283,35,283,80⟩ ⟨283,15,283,21⟩ ⟨283,15,283,81⟩) ⟨283,7,283,81⟩) [ (.ret (.cst (.bool false) (.bool false) ⟨284,15,284,20⟩) ⟨284,8,284,20⟩)] [ ] ⟨283,4,284,20⟩), Zt44, Zt45, Zt46, Zt47, Zt48, Zt49, Zt50, Zt51, Zt52, Zt53, Zt54, Zt55, Zt56, Zt57]
noncomputable def f20 : Fn := { nmk := 149, ps := [(73, ⟨257,8,257,14⟩)], df := [], ko := [], kdf := [], body := b20, kd := [(73, .loc), (116, .loc), (83, .loc), (117, .loc), (118, .loc), (84, .loc), (85, .loc), (86, .loc), (119, .loc), (94, .cel), (76, .loc), (103, .loc), (123, .loc), (124, .loc), (125, .loc), (126, .loc), (127, .loc), (128, .loc), (130, .loc), (131, .loc), (132, .loc), (133, .loc), (79, .loc), (136, .loc), (137, .loc), (138, .loc), (139, .loc), (129, .loc), (140, .loc), (141, .loc), (142, .loc), (143, .cel), (144, .loc), (145, .loc), (146, .loc), (147, .loc), (135, .cel), (134, .cel), (122, .cel), (121, .cel), (120, .cel), (81, .glb), (91, .glb), (95, .glb), (104, .glb), (150, .glb), (92, .glb), (82, .glb), (71, .glb), (66, .glb), (42, .glb), (107, .glb), (62, .glb), (48, .glb), (8, .glb), (47, .glb), (50, .glb), (151, .glb), (115, .glb), (108, .glb), (111, .glb)], mo := [fast "script", fast "cells", fast "size", fast "share", fast "value", fast "step", fast "quotients", fast "rests", fast "words", fast "worths", fast "row", fast "text", fast "number", fast "pair", fast "red", fast "green", fast "blue", fast "told", fast "hue", fast "wheel", fast "cut", fast "ring", fast "one", fast "other", fast "first", fast "core", fast "behind", fast "low", fast "high", fast "spot", fast "arc", fast "turned", fast "wants", fast "name", fast "both", fast "held", fast "great", fast "dues", fast "want", fast "due", fast "end", fast "front", fast "hues", fast "names", fast "rows"], pure := true, p := ⟨257,0,306,112⟩ }
noncomputable def fns : List Fn := [f0, f1, f2, f3, f4, f5, f6, f7, f8, f9, f10, f11, f12, f13, f14, f15, f16, f17, f18, f19, f20]
end Mine
end
set_option genSizeOf false
set_option genInjectivity false
section
open PySem
namespace Mine
noncomputable def nm (k : Nat) : Str := match nth nmL k with
 | some s => s
 | none => ⟨#[0, k]⟩
noncomputable def BF.ix : BF → Nat
 | .len => 8 | .sum => 80 | .list => 150 | .tuple => 112 | .sorted => 151 | .divmod => 22 | .max => 63 | .min => 64 | .int => 72 | .chr => 105 | .range => 92
noncomputable def MF.str : MF → String
 | .split => "split" | .startswith => "startswith" | .endswith => "endswith" | .find => "find" | .bitLength => "bit_length" | .append => "append" | .reverse => "reverse" | .insert => "insert" | .index => "index" | .join => "join"
noncomputable def scopeOf (kd : List (Nat × K3)) (mo : List (Str × Const)) : Scope := { kind := .function, names := kd.map fun x => (nm x.1, x.2.kind), isGenerator := false, isCoroutine := false, more := mo }
noncomputable def argOf (x : Nat × Pos) : Arg := { arg := nm x.1, annotation := none, pos := x.2 }
noncomputable def argsOf (ps : List (Nat × Pos)) : Arguments := { posonlyargs := [], args := ps.map argOf, vararg := none, kwonlyargs := [], kw_defaults := [], kwarg := none, defaults := [] }
noncomputable def Tg.toE : Tg → PySem.Expr
 | .name k p => .Name (nm k) p
 | .tup ks p => .Tuple (ks.map fun x => .Name (nm x.1) x.2) 0 p
mutual
noncomputable def X.toE : X → PySem.Expr
 | .cst c _ p => .Constant c 0 p
 | .var k p => .Name (nm k) p
 | .gcon k _ p => .Name (nm k) p
 | .bin l op r p => .BinOp l.toE op r.toE p
 | .un op x p => .UnaryOp op x.toE p
 | .bop op xs p => .BoolOp op (toEs xs) p
 | .cmp l op r p => .Compare l.toE [op] [r.toE] p
 | .cmp2 l op m op2 r p => .Compare l.toE [op, op2] [m.toE, r.toE] p
 | .ite c t e p => .IfExp c.toE t.toE e.toE p
 | .tupl xs p => .Tuple (toEs xs) 0 p
 | .list xs p => .List (toEs xs) p
 | .idx o i p => .Subscript o.toE i.toE p
 | .slc o lo hi st sp p => .Subscript o.toE (.Slice lo.toE hi.toE st.toE sp) p
 | .gcall _ k args kw np p => .Call (.Name (nm k) np) (toEs args) (toKs kw) p
 | .bcall f args np p => .Call (.Name (nm f.ix) np) (toEs args) [] p
 | .sortk a key kp np p => .Call (.Name (nm 151) np) [a.toE] [{ arg := some (nm 46), value := key.toE, pos := kp }] p
 | .mcall m o args ap p => .Call (.Attribute o.toE (Str.ofString m.str) ap) (toEs args) [] p
 | .vcall k args np p => .Call (.Name (nm k) np) (toEs args) [] p
 | .comp elt gs kd p => .ListComp elt.toE (toGs gs) (scopeOf kd []) p
 | .lam ps body kd mo p => .Lambda (argsOf ps) body.toE (scopeOf kd mo) p
 | .raw e => e
noncomputable def Xo.toE : Xo → Option PySem.Expr
 | .no => none
 | .so x => some x.toE
noncomputable def It.toE : It → PySem.Expr
 | .pl x => x.toE
 | .en x np p => .Call (.Name (nm 82) np) [x.toE] [] p
 | .zp x y np p => .Call (.Name (nm 108) np) [x.toE, y.toE] [] p
 | .rv x np p => .Call (.Name (nm 41) np) [x.toE] [] p
noncomputable def toEs : List X → List PySem.Expr
 | [] => []
 | x :: r => x.toE :: toEs r
noncomputable def toKs : List Kw → List Keyword
 | [] => []
 | .mk k x p :: r => { arg := some (nm k), value := x.toE, pos := p } :: toKs r
noncomputable def toGs : List G → List Comprehension
 | [] => []
 | .mk t it ifs :: r => { target := t.toE, iter := it.toE, ifs := toEs ifs, is_async := 0 } :: toGs r
end
noncomputable def TD.toS (d : TD) : PySem.Stmt :=
 .Try [.Assign [.Tuple [.Name (nm d.q.1) d.q.2, .Name (nm d.r.1) d.r.2] 0 d.tp] (.Call (.Name (nm d.k) d.fp) [d.a.toE, d.b.toE] [] d.cp) d.ap]
  [.ExceptHandler (some (.Name (nm 43) d.zp)) (some (nm d.en))
   [.Return (some (.Tuple [d.e1.toE, d.e2.toE, .Call (.Name (nm 93) d.sf) [.Name (nm d.en) d.sa] [] d.sc] 0 d.tt)) d.rt] d.hp] [] [] d.p
mutual
noncomputable def S.toS : S → PySem.Stmt
 | .asg t e p => .Assign [t.toE] e.toE p
 | .asw ks tp xs vp p => .Assign [.Tuple (ks.map fun x => .Name (nm x.1) x.2) 0 tp] (.Tuple (toEs xs) 0 vp) p
 | .asc k kp e p => .Assign [.Name (nm k) kp] e.toE p
 | .aug k kp op e p => .AugAssign (.Name (nm k) kp) op e.toE p
 | .seti o i sp e p => .Assign [.Subscript o.toE i.toE sp] e.toE p
 | .deli o i sp p => .Delete [.Subscript o.toE i.toE sp] p
 | .ifs c t e p => .If c.toE (toSs t) (toSs e) p
 | .fors t it body p => .For t.toE it.toE (toSs body) [] p
 | .whil c body p => .While c.toE (toSs body) [] p
 | .ret e p => .Return (some e.toE) p
 | .retn p => .Return none p
 | .asrt c p => .Assert c.toE none p
 | .expm m o args ap cp p => .Expr (.Call (.Attribute o.toE (Str.ofString m.str) ap) (toEs args) [] cp) p
 | .expc e p => .Expr e.toE p
 | .defn k ps body kd mo p => .FunctionDef (nm k) (argsOf ps) (toSs body) [] none [] (scopeOf kd mo) none (nm k) p
 | .tryd d => d.toS
 | .raw s => s
noncomputable def toSs : List S → List PySem.Stmt
 | [] => []
 | s :: r => s.toS :: toSs r
end
noncomputable def Fn.args (f : Fn) : Arguments := { posonlyargs := [], args := f.ps.map argOf, vararg := none, kwonlyargs := f.ko.map argOf, kw_defaults := (toEs f.kdf).map some, kwarg := none, defaults := toEs f.df }
noncomputable def Fn.toS (f : Fn) : PySem.Stmt := .FunctionDef (nm f.nmk) f.args (toSs f.body) [] none [] (scopeOf f.kd f.mo) none (nm f.nmk) f.p
noncomputable def isG (kd : List (Nat × K3)) (k : Nat) : Bool := match lkp k kd with
 | some .glb => true
 | _ => false
noncomputable def isLoc (kd : List (Nat × K3)) (k : Nat) : Bool := match lkp k kd with
 | some .loc => true
 | _ => false
noncomputable def isCl (kd : List (Nat × K3)) (k : Nat) : Bool := match lkp k kd with
 | some .cel => true
 | some .fre => true
 | _ => false
noncomputable def isCe (kd : List (Nat × K3)) (k : Nat) : Bool := match lkp k kd with
 | some .cel => true
 | _ => false
noncomputable def isV (kd : List (Nat × K3)) (k : Nat) : Bool := isLoc kd k || isCl kd k
noncomputable def toS (l : List Nat) : Str := ⟨l.toArray⟩
noncomputable def AC.toC : AC → Const
 | .none => .none
 | .bool b => .bool b
 | .int i => .int i
 | .flt b => .float b.u
 | .str s => .str (toS s)
noncomputable def AC.okC (c : Const) (a : AC) : Bool := decide (c = a.toC)
noncomputable def gcons : List (Nat × AC) := [(2, .str [46,46,46]), (12, .int 4000)]
noncomputable def AC.same : AC → AC → Bool
 | .int i, .int j => eqI i j
 | .str s, .str l => eqL s l
 | _, _ => false
noncomputable def nodupK : List (Nat × K3) → Bool
 | [] => true
 | x :: r => (!r.any fun y => Nat.beq y.1 x.1) && nodupK r
noncomputable def nodupP : List (Nat × Pos) → Bool
 | [] => true
 | x :: r => (!r.any fun y => Nat.beq y.1 x.1) && nodupP r
noncomputable def noCel (kd : List (Nat × K3)) : Bool := kd.all fun x => match x.2 with
 | .cel => false
 | _ => true
noncomputable def okIn (kd kd' : List (Nat × K3)) : Bool := nodupK kd' && (noCel kd' && kd'.all fun x => match x.2 with
 | .fre => isCl kd x.1
 | _ => true)
noncomputable def Tg.ok (kd : List (Nat × K3)) : Tg → Bool
 | .name k _ => isLoc kd k || isCe kd k
 | .tup ks _ => ks.all fun x => isLoc kd x.1 || isCe kd x.1
noncomputable def notCall : X → Bool
 | .gcall .. => false
 | .bcall .. => false
 | .vcall .. => false
 | .sortk .. => false
 | .mcall .. => false
 | _ => true
noncomputable def notComp : X → Bool
 | .comp .. => false
 | _ => true
noncomputable def It.pairs : It → Bool
 | .en _ _ _ => true
 | .zp _ _ _ _ => true
 | _ => false
noncomputable def Tg.isTup : Tg → Bool
 | .tup _ _ => true
 | .name _ _ => false
mutual
noncomputable def X.ok (P : List Fn) (kd : List (Nat × K3)) (tq : Nat) : X → Bool
 | .cst c v _ => AC.okC c v
 | .var k _ => isV kd k
 | .gcon k v _ => isG kd k && (match lkp k gcons with | some w => AC.same v w | none => false)
 | .bin l _ r _ => l.ok P kd tq && r.ok P kd tq
 | .un _ x _ => x.ok P kd tq
 | .bop _ xs _ => oks P kd tq xs
 | .cmp l _ r _ => l.ok P kd tq && r.ok P kd tq
 | .cmp2 l _ m _ r _ => l.ok P kd tq && m.ok P kd tq && r.ok P kd tq
 | .ite c t e _ => c.ok P kd tq && t.ok P kd tq && e.ok P kd tq
 | .tupl xs _ => oks P kd tq xs
 | .list xs _ => oks P kd tq xs
 | .idx o i _ => o.ok P kd tq && i.ok P kd tq
 | .slc o lo hi st _ _ => o.ok P kd tq && lo.ok P kd tq && hi.ok P kd tq && st.ok P kd tq
 | .gcall f k args kw _ _ => isG kd k && (match nth P f with | some fn => Nat.beq fn.nmk k | none => false) && oks P kd tq args && okKs P kd tq kw && Nat.blt (args.length + 2 * kw.length) 30 && !(Nat.beq f 13 || Nat.beq f 20)
 | .bcall f args _ _ => isG kd f.ix && oks P kd tq args && Nat.blt args.length 20
 | .sortk a key _ _ _ => isG kd 151 && a.ok P kd tq && key.ok P kd tq
 | .mcall _ o args ap p => o.ok P kd tq && oks P kd tq args && Nat.blt args.length 20 && notCall o && (ap.endLine == p.line)
 | .vcall k args _ _ => isV kd k && oks P kd tq args && Nat.blt args.length 20
 | .comp elt gs kd' _ => okIn kd kd' && okGs P kd kd' tq gs && elt.ok P kd' 0
 | .lam ps body kd' _ _ => Nat.beq tq 1 && okIn kd kd' && ps.all (fun x => isLoc kd' x.1) && nodupP ps && body.ok P kd' 0
 | .raw _ => false
noncomputable def Xo.ok (P : List Fn) (kd : List (Nat × K3)) (tq : Nat) : Xo → Bool
 | .no => true
 | .so x => x.ok P kd tq
noncomputable def It.ok (P : List Fn) (kd : List (Nat × K3)) (tq : Nat) : It → Bool
 | .pl x => x.ok P kd tq
 | .en x _ _ => isG kd 82 && x.ok P kd tq
 | .zp x y _ _ => isG kd 108 && x.ok P kd tq && y.ok P kd tq
 | .rv x _ _ => isG kd 41 && x.ok P kd tq
noncomputable def oks (P : List Fn) (kd : List (Nat × K3)) (tq : Nat) : List X → Bool
 | [] => true
 | x :: r => x.ok P kd tq && oks P kd tq r
noncomputable def okKs (P : List Fn) (kd : List (Nat × K3)) (tq : Nat) : List Kw → Bool
 | [] => true
 | .mk _ x _ :: r => x.ok P kd tq && okKs P kd tq r
noncomputable def okGs (P : List Fn) (kd kd' : List (Nat × K3)) (tq : Nat) : List G → Bool
 | [] => true
 | .mk t it ifs :: r => it.ok P kd tq && t.ok kd' && oks P kd' 0 ifs && okGs P kd' kd' 0 r && (!it.pairs || t.isTup)
end
noncomputable def swapOk (ks : List (Nat × Pos)) (xs : List X) : Bool := (Nat.beq ks.length 2 || Nat.beq ks.length 3) && (Nat.beq xs.length ks.length && ((match ks with
 | (_, p) :: _ => ks.all fun x => x.2.line == p.line
 | [] => false) && (nodupP ks && (!(toEs xs).all (foldedForSure 8) && !(toEs xs).all (constantsAlone 8)))))
noncomputable def asgOk (kd : List (Nat × K3)) : Tg → X → Bool
 | .name k _, .comp .. => !isLoc kd k
 | .tup ks _, .tupl .. => ks.any fun x => isCe kd x.1
 | .tup .., .comp .. => false
 | _, _ => true
mutual
noncomputable def S.ok (P : List Fn) (kd : List (Nat × K3)) (tq : Nat) : S → Bool
 | .asg t e _ => t.ok kd && e.ok P kd tq && asgOk kd t e
 | .asw ks _ xs _ _ => ks.all (fun x => isLoc kd x.1) && oks P kd tq xs && swapOk ks xs
 | .asc k kp e _ => isLoc kd k && e.ok P kd tq && (match e with | .comp _ _ kd' p => (kp.line == p.line) && !(kd'.any fun y => Nat.beq y.1 k && (y.2 == .loc)) | _ => false)
 | .aug k _ _ e _ => isLoc kd k && e.ok P kd tq
 | .seti o i _ e _ => o.ok P kd tq && i.ok P kd tq && e.ok P kd tq && notComp e
 | .deli o i _ _ => o.ok P kd tq && i.ok P kd tq
 | .ifs c t e _ => c.ok P kd tq && okSs P kd tq t && okSs P kd tq e
 | .fors t it body _ => t.ok kd && it.ok P kd tq && okSs P kd tq body && (!it.pairs || t.isTup)
 | .whil c body _ => c.ok P kd tq && okSs P kd tq body
 | .ret e _ => e.ok P kd tq
 | .retn _ => true
 | .asrt c _ => c.ok P kd tq
 | .expm _ o args ap cp _ => o.ok P kd tq && oks P kd tq args && Nat.blt args.length 20 && notCall o && (ap.endLine == cp.line)
 | .expc e _ => e.ok P kd tq && (match e with | .vcall .. => true | .gcall .. => true | _ => false)
 | .defn k ps body kd' _ _ => Nat.beq tq (k + 2) && (isLoc kd k || isCe kd k) && okIn kd kd' && ps.all (fun x => isLoc kd' x.1) && nodupP ps && okSs P kd' 0 body
 | .tryd _ => false
 | .raw _ => true
noncomputable def okSs (P : List Fn) (kd : List (Nat × K3)) (tq : Nat) : List S → Bool
 | [] => true
 | s :: r => s.ok P kd tq && okSs P kd tq r
end
noncomputable def tqOf (f : Nat) : Nat := match f with
 | 2 => 27
 | 3 => 27
 | 20 => 1
 | _ => 0
noncomputable def noFre (kd : List (Nat × K3)) : Bool := kd.all fun x => match x.2 with
 | .fre => false
 | _ => true
noncomputable def stok (kd : List (Nat × K3)) (k : Nat) : Bool := isLoc kd k || isCe kd k
noncomputable def Fn.okH (fn : Fn) : Bool := nodupK fn.kd && (nodupP fn.ps && ((match fn.ko with
 | [] => fn.ps.all (fun x => stok fn.kd x.1)
 | _ :: _ => [9, 26, 44, 45, 46].all (fun k => stok fn.kd k)) && noFre fn.kd))
noncomputable def Fn.ok (P : List Fn) (f : Nat) (fn : Fn) : Bool := fn.okH && (okSs P fn.kd (tqOf f) fn.body || (Nat.beq f 13 || Nat.beq f 20))
end Mine
end
section
open PySem PySem.W PyProof.Rows
namespace Mine
structure Cx where
 prog : Program
 w : World
 B : Heap
 mg : Str → Option Value
 mb : Str → Option Value
 P : List Fn
 T : List (Addr × Addr × Str)
noncomputable def obK (K : Frag) (a : Addr) : Obj := (K.lookup a).getD { cls := .none, data := .plain }
noncomputable def fdK (K : Frag) (a : Addr) : FuncData := match (obK K a).data with
 | .func fd => fd
 | _ => { name := ⟨#[]⟩, qualname := ⟨#[]⟩, params := { posonlyargs := [], args := [], vararg := none, kwonlyargs := [], kw_defaults := [], kwarg := none, defaults := [] }, body := .stmts [], scope := scopeOf [] [], globals := 0, closure := [], defaults := .none, kwdefaults := .none, pyModule := .none, code := .none }
noncomputable def fsK (K : Frag) (a : Addr) : Array Value := match (obK K a).data with
 | .fields vs => vs
 | _ => #[]
noncomputable def tkV : Value → Tok
 | .str _ t => t
 | .int _ t => t
 | _ => 0
noncomputable def tkK (K : Frag) (a : Addr) : Tok := match (fsK K a)[1]? with
 | some v => tkV v
 | none => 0
noncomputable def t0K (K : Frag) (a : Addr) : Tok := match (obK K a).data with
 | .seq vs _ => (match vs[0]? with
  | some v => tkV v
  | none => 0)
 | _ => 0
structure Row1 where
 f : Nat
 fn : Fn
 fa : Addr
 ca : Addr
 da : Addr
noncomputable def adr1 : List (Addr × Addr × Addr) := [(21, 20, 0), (28, 27, 0), (42, 41, 0), (49, 48, 0), (56, 55, 0), (63, 62, 0), (72, 71, 64), (81, 80, 73), (90, 89, 82), (97, 96, 0), (104, 103, 0), (111, 110, 0), (116, 115, 0), (123, 122, 0), (130, 129, 0), (135, 134, 0), (140, 139, 0), (145, 144, 0), (152, 151, 0), (157, 156, 0), (162, 161, 0)]
noncomputable def rowsOf : Nat → List Fn → List (Addr × Addr × Addr) → List Row1
 | k, fn :: r, (a, b, c) :: t => ⟨k, fn, a, b, c⟩ :: rowsOf (k + 1) r t
 | _, _, _ => []
noncomputable def rows1 : List Row1 := rowsOf 0 fns adr1
noncomputable def seen1 (K : Frag) (x : Row1) := ((nsIn K mainGlobals (nm x.fn.nmk), K.lookup x.fa, (obK K x.fa).data, (fdK K x.fa).qualname), ((fdK K x.fa).params, (fdK K x.fa).body, (fdK K x.fa).scope), ((fdK K x.fa).globals, (fdK K x.fa).builtins, (fdK K x.fa).closure, (fdK K x.fa).code), (K.lookup x.ca, (obK K x.ca).data, (fsK K x.ca)[1]?),
 match x.fn.df with
 | [] => ((fdK K x.fa).defaults, some (obK K 0), (Data.plain : Data))
 | _ :: _ => ((fdK K x.fa).defaults, K.lookup x.da, (obK K x.da).data))
noncomputable def due1 (K : Frag) (x : Row1) : ((Option (Option Value) × Option Obj × Data × Str) × (Arguments × FuncBody × Scope) × (Addr × Addr × List (Str × Addr) × Value) × (Option Obj × Data × Option Value) × (Value × Option Obj × Data)) :=
 ((some (some (.ref x.fa)), some (obK K x.fa), .func (fdK K x.fa), nm x.fn.nmk), (x.fn.args, .stmts (toSs x.fn.body), scopeOf x.fn.kd x.fn.mo), (mainGlobals, builtinsNs, [], .ref x.ca), (some (obK K x.ca), .fields (fsK K x.ca), some (.str (nm x.fn.nmk) (tkK K x.ca))),
 match x.fn.df with
 | [] => (.none, some (obK K 0), .plain)
 | _ :: _ => (.ref x.da, some (obK K x.da), .seq #[.int 0 (t0K K x.da), .none]))
noncomputable def bl1 : List (Nat × Value) := [(8, .builtin "len"), (80, .builtin "sum"), (150, .type "list"), (112, .type "tuple"), (151, .builtin "sorted"), (22, .builtin "divmod"), (63, .builtin "max"), (64, .builtin "min"), (72, .type "int"), (105, .builtin "chr"), (92, .type "range"), (82, .type "enumerate"), (108, .type "zip"), (41, .type "reversed"), (93, .type "str"), (43, .type "ZeroDivisionError")]
noncomputable def seenB (K : Frag) : List (Option (Option Value) × Option Value) := bl1.map fun x => (nsIn K mainGlobals (nm x.1), bootBuiltins (nm x.1))
noncomputable def dueB : List (Option (Option Value) × Option Value) := bl1.map fun x => (some none, some x.2)
structure KOk (K : Frag) : Prop where
 fns : rows1.map (seen1 K) = rows1.map (due1 K)
 bl : seenB K = dueB
 st : K.lookup cStatics = some { cls := .none, data := .dict #[] }
 c0 : nsIn K mainGlobals (nm 2) = some (some (.str (toS [46, 46, 46]) (match nsIn K mainGlobals (nm 2) with | some (some v) => tkV v | _ => 0)))
 c1 : nsIn K mainGlobals (nm 12) = some (some (.int 4000 (match nsIn K mainGlobals (nm 12) with | some (some v) => tkV v | _ => 0)))
noncomputable def T3 : List (Addr × Addr × Str) := [(48, 44, (nm 35 ++ ".<locals>.") ++ nm 25), (41, 37, (nm 33 ++ ".<locals>.") ++ nm 25), (161, 159, (nm 149 ++ ".<locals>.") ++ Str.ofString "<lambda>")]
structure JoinP (C : Cx) (K : Frag) (p : Program) (loose : List Str) (mean : ExcName → Option Value) (L lst : Addr) (m : Str → Option Value) (vs : List Value) (xs : List Int) (h : Heap) (o0 o1 o2 o3 o4 o5 o6 : Obj) : Prop where
 X : K.In C.B
 T : Top p loose mean C.mg C.mb C.B
 k : KOk K
 F : Fr C.B L h m
 hm : m (nm 73) = some (.ref lst)
 hl : C.B.IsList lst vs.toArray
 hI : IntsAre vs xs
 hx : xs.length < 64
 c1 : CodeHd C.B 48 44
 c2 : CodeHd C.B 41 37
 c3 : CodeHd C.B 161 159
 N : News C.B L h [(L + 1 + 1 + 1 + 1 + 1 + 1 + 1, o6), (L + 1 + 1 + 1 + 1 + 1 + 1, o5), (L + 1 + 1 + 1 + 1 + 1, o4), (L + 1 + 1 + 1 + 1, o3), (L + 1 + 1 + 1, o2), (L + 1 + 1, o1), (L + 1, o0), (44, tabObj #[]), (37, tabObj #[]), (159, tabObj #[])]
 cells : ∀ o ∈ [o0, o1, o2, o3, o4, o5, o6], o.data = .cell none
 hL : 44 < L ∧ 37 < L ∧ 159 < L
noncomputable def Good (C : Cx) : Prop := ∀ K p loose mean L lst m vs xs (s : Shared) o0 o1 o2 o3 o4 o5 o6, JoinP C K p loose mean L lst m vs xs s.heap o0 o1 o2 o3 o4 o5 o6 → ∀ (fa : Addr) (Q : Flow → Shared → Prop) (E : Value → Shared → Prop),
 (∀ h' tk, (∀ b o, C.B.get? b = some o → h'.get? b = some o) → GrownAll [(48, 44), (41, 37), (161, 159)] h' → Q (.ret (.bool true)) { s with heap := h', toks := tk }) →
 wpAny (model C.prog C.w) (callerA.deeper (envOfC (nm 149) (scopeOf f20.kd f20.mo) L fa (.ref 161))) (execs (toSs b20) (envOfC (nm 149) (scopeOf f20.kd f20.mo) L fa (.ref 161))) Q E s
noncomputable def Bad (C : Cx) : Prop := (C.P = fns ∧ C.T = T3) ∧ ¬ Good C
noncomputable def C0 : Cx := @Classical.epsilon Cx ⟨⟨default, ⟨fun _ _ => 0, { strHash := fun _ => 0, shareClass := fun _ => 0, mergeTok := id, idOf := fun _ => 0, idOfShared := fun _ _ => 0, followText := fun _ => false, idOfImm := fun _ => 0 }⟩, default, fun _ => none, fun _ => none, [], []⟩⟩ Bad
theorem good_all (h : C0.P = fns → C0.T = T3 → Good C0) {C : Cx} (hP : C.P = fns) (hT : C.T = T3) : Good C := Classical.byContradiction fun n =>
 have b : Bad C0 := @Classical.epsilon_spec _ Bad ⟨C, ⟨hP, hT⟩, n⟩
 b.2 (h b.1.1 b.1.2)
noncomputable def Cx.tabA (C : Cx) (a : Addr) : Prop := ∃ x ∈ C.T, x.2.1 = a
noncomputable abbrev M0 : Model := model C0.prog C0.w
structure CloFd (ps : List (Nat × Pos)) (body : FuncBody) (kd : List (Nat × K3)) (mo : List (Str × Const)) (cs : List (Nat × Nat)) (ρ : List Addr) (fd : FuncData) : Prop where
 params : fd.params = argsOf ps
 body : fd.body = body
 scope : fd.scope = scopeOf kd mo
 globals : fd.globals = mainGlobals
 builtins : fd.builtins = builtinsNs
 dV : fd.defaults = .none
 cells : ∀ k i, lkp k cs = some i → ∃ a, ρ[i]? = some a ∧ fd.closure.lookup (nm k) = some a
 nd : nodupK kd = true
 nocel : noCel kd = true
 psl : (ps.all fun x => isLoc kd x.1) = true
 psn : nodupP ps = true
 cov : ∀ k, (k, K3.fre) ∈ kd → ∃ i, lkp k cs = some i
 inn : ∀ k i, lkp k cs = some i → isCl kd k = true
noncomputable def LstAt (h : Heap) (a : Addr) (vs : List Value) (n : Nat) : Prop := h.get? a = some { cls := .type "list", data := .seq vs.toArray n }
noncomputable def TupAt (h : Heap) (a : Addr) (vs : List Value) (n : Nat) : Prop := h.get? a = some { cls := .type "tuple", data := .seq vs.toArray n }
noncomputable def FunAt (h : Heap) (a : Addr) (fd : FuncData) : Prop := h.get? a = some { cls := .type "function", data := .func fd }
noncomputable def CloR (ρ : List Addr) (h : Heap) (ps : List (Nat × Pos)) (body : FuncBody) (ok : List (Nat × K3) → Bool) (kd : List (Nat × K3)) (mo : List (Str × Const)) (cs : List (Nat × Nat)) (v : Value) : Prop :=
 ∃ a fd, v = .ref a ∧ FunAt h a fd ∧ CloFd ps body kd mo cs ρ fd ∧ ok kd = true ∧ h.CodeRec fd.code fd.qualname ∧ ∀ c, fd.code = .ref c → ¬ C0.tabA c
mutual
noncomputable def VRel (U : Addr → Prop) (ρ : List Addr) (h : Heap) : AV → Value → Prop
 | .none, v => v = .none
 | .bool b, v => v = .bool b
 | .int i, v => ∃ t, v = .int i t
 | .flt x, v => ∃ t, v = .float x.u t ∧ t ≠ 0
 | .str s, v => ∃ t, v = .str (toS s) t
 | .tup xs, v => ∃ a vs n, v = .ref a ∧ TupAt h a vs n ∧ ¬ U a ∧ VRels U ρ h xs vs
 | .ref i, v => ∃ a, v = .ref a ∧ ρ[i]? = some a
 | .cloX ps body kd mo cs, v => CloR ρ h ps (.expr body.toE) (fun kd => body.ok C0.P kd 0) kd mo cs v
 | .cloS ps body kd mo cs, v => CloR ρ h ps (.stmts (toSs body)) (fun kd => okSs C0.P kd 0 body) kd mo cs v
 | .rng a b c, v => ∃ r t u w, v = .ref r ∧ IsRange h r a b c t u w
 | .frz xs, v => ∃ a o vs n, v = .ref a ∧ C0.B.get? a = some o ∧ o.cls = .type "list" ∧ o.data = .seq vs.toArray n ∧ VRels U ρ h xs vs
noncomputable def VRels (U : Addr → Prop) (ρ : List Addr) (h : Heap) : List AV → List Value → Prop
 | [], vs => vs = []
 | x :: r, vs => ∃ v ws, vs = v :: ws ∧ VRel U ρ h x v ∧ VRels U ρ h r ws
end
noncomputable def ORel (U : Addr → Prop) (ρ : List Addr) (h : Heap) (a : Addr) (o : AO) : Prop := match o with
 | .lst xs => ∃ vs n, LstAt h a vs n ∧ VRels U ρ h xs vs
 | .cell v => ∃ o w, h.get? a = some o ∧ o.data = .cell w ∧ ∀ x, v = some x → ∃ u, w = some u ∧ VRel U ρ h x u
structure TabOk (h : Heap) (x : Addr × Addr × Str) (ps : Array Value) : Prop where
 at_ : h.get? x.2.1 = some { cls := .none, data := .fields ps }
 trip : TriplesOk ps.toList
 rec_ : ∀ pos cv, codeAmong pos ps.toList = some cv → h.CodeRec cv x.2.2 ∧ ∀ c, cv = .ref c → ¬ C0.tabA c
structure SRel (U : Addr → Prop) (ρ : List Addr) (H : St) (h : Heap) : Prop where
 base : ∀ a o, C0.B.get? a = some o → h.get? a = some o
 apart : ∀ (i : Nat) (a : Addr), ρ[i]? = some a → C0.B.get? a = none
 nodup : ∀ (i j : Nat) (a : Addr), ρ[i]? = some a → ρ[j]? = some a → i = j
 len : ρ.length = H.length
 objs : ∀ (i : Nat) (a : Addr) (ob : AO), ρ[i]? = some a → nth H i = some ob → ORel U ρ h a ob
 tabs : ∀ x ∈ C0.T, C0.B.get? x.2.1 = none ∧ CodeHd C0.B x.1 x.2.1 ∧ ∃ ps, TabOk h x ps
 hid : ∀ a, U a → ∃ o, h.get? a = some o
structure Evo (b : Nat) (ρ : List Addr) (L : Option Addr) (h h' : Heap) : Prop where
 alive : ∀ (a : Addr) (o : Obj), h.get? a = some o → ∃ o', h'.get? a = some o'
 keep : ∀ (a : Addr) (o : Obj), h.get? a = some o → (∀ i : Nat, b ≤ i → ρ[i]? ≠ some a) → ¬ C0.tabA a → L ≠ some a → h'.get? a = some o
theorem nth_getElem {α : Type} : ∀ (l : List α) (i : Nat), nth l i = l[i]?
 | [], _ => rfl
 | _ :: _, 0 => rfl
 | _ :: r, n + 1 => by show nth r n = _; rw [nth_getElem r n]; rfl
theorem setN_set {α : Type} (v : α) : ∀ (l : List α) (i : Nat), setN v l i = l.set i v
 | [], _ => rfl
 | _ :: _, 0 => rfl
 | x :: r, n + 1 => by show x :: setN v r n = _; rw [setN_set v r n]; rfl
noncomputable def isLt (v : Value) : Bool := match v with
 | .type t => t == "list"
 | .none => true
 | _ => false
noncomputable def isRg (v : Value) : Bool := match v with
 | .type t => t == "range"
 | _ => false
noncomputable def isSt (v : Option Value) : Bool := match v with
 | some (.str _ _) => true
 | _ => false
noncomputable def firm (o : Obj) : Bool := match o.data with
 | .func _ => true
 | .fields vs => isRg o.cls || isSt vs[1]?
 | _ => false
noncomputable def soft (o : Obj) : Bool := match o.data with
 | .cell _ => true
 | .dict _ _ => true
 | .seq _ _ => isLt o.cls
 | .fields _ => isLt o.cls
 | _ => false
section
variable {U U' : Addr → Prop} {b : Nat} {ρ ρ' : List Addr} {L : Option Addr} {H H' : St} {h h' : Heap}
theorem get_lt {α : Type} {l : List α} {i : Nat} {x : α} (e : l[i]? = some x) : i < l.length := (List.getElem?_eq_some_iff.mp e).1
theorem ORel.get {a : Addr} {ob : AO} (x : ORel U ρ h a ob) : ∃ o, h.get? a = some o ∧ soft o = true ∧ ∀ vs, o.data ≠ .fields vs := by
 cases ob with
 | lst => obtain ⟨_, _, e, _⟩ := x; exact ⟨_, e, rfl, fun _ q => nomatch q⟩
 | cell => obtain ⟨_, _, e, d, _⟩ := x; exact ⟨_, e, by unfold soft; rw [d], fun _ q => nomatch d.symm.trans q⟩
theorem SRel.obj (S : SRel U ρ H h) {i : Nat} {a : Addr} (e : ρ[i]? = some a) : ∃ ob, nth H i = some ob ∧ ORel U ρ h a ob :=
 have q := (nth_getElem H i).trans (List.getElem?_eq_getElem (S.len ▸ get_lt e))
 ⟨_, q, S.objs i a _ e q⟩
theorem SRel.at (S : SRel U ρ H h) {i : Nat} {ob : AO} (e : nth H i = some ob) : ∃ a, ρ[i]? = some a ∧ ORel U ρ h a ob :=
 have q := List.getElem?_eq_getElem (l := ρ) (i := i) (S.len ▸ get_lt ((nth_getElem H i) ▸ e))
 ⟨_, q, S.objs i _ _ q e⟩
theorem SRel.sft (S : SRel U ρ H h) {i : Nat} {a : Addr} {o : Obj} (e : ρ[i]? = some a) (g : h.get? a = some o) : soft o = true ∧ ∀ vs, o.data ≠ .fields vs :=
 let ⟨_, _, r⟩ := S.obj e; let ⟨_, g', m⟩ := r.get; Option.some.inj (g'.symm.trans g) ▸ m
theorem SRel.noTab (S : SRel U ρ H h) {i : Nat} {a : Addr} (e : ρ[i]? = some a) : ¬ C0.tabA a := by
 rintro ⟨x, hx, rfl⟩
 obtain ⟨_, _, _, t⟩ := S.tabs x hx
 exact (S.sft e t.at_).2 _ rfl
theorem none_at {a : Addr} (ha : h.objs.size ≤ a) : h.get? a = none := Heap.get?_none_of_le ha
theorem SRel.notHid (S : SRel U ρ H h) {a : Addr} (ha : h.objs.size ≤ a) : ¬ U a := fun q => let ⟨_, e⟩ := S.hid a q; nomatch (none_at ha).symm.trans e
noncomputable def Dic (L : Option Addr) (h : Heap) : Prop := ∀ a, L = some a → ∃ o es n, h.get? a = some o ∧ o.data = .dict es n
theorem Dic.none : Dic none h := fun _ e => nomatch e
theorem keepOf (S : SRel U ρ H h) (E : Evo b ρ L h h') (D : Dic L h) {a : Addr} {o : Obj} (e : h.get? a = some o) (ht : ¬ C0.tabA a) (f : soft o = true → ∃ vs, o.data = .fields vs) : h'.get? a = some o :=
 E.keep a o e (fun i _ hi => let ⟨m, n⟩ := S.sft hi e; let ⟨vs, q⟩ := f m; n vs q) ht fun hL => let ⟨o', es, n, e', hd⟩ := D a hL
  have hd : o.data = .dict es n := Option.some.inj (e'.symm.trans e) ▸ hd
  let ⟨_, q⟩ := f (by unfold soft; rw [hd]); nomatch hd.symm.trans q
theorem SRel.tabNone (S : SRel U ρ H h) {a : Addr} {o : Obj} (e : h.get? a = some o) (f : soft o = false) : ¬ C0.tabA a := fun ⟨x, hx, q⟩ => by
 obtain ⟨_, _, _, t⟩ := S.tabs x hx
 exact Bool.noConfusion ((congrArg soft (Option.some.inj (t.at_.symm.trans (q ▸ e)))).trans f : true = false)
theorem keepFirm (S : SRel U ρ H h) (E : Evo b ρ L h h') (D : Dic L h) {a : Addr} {o : Obj} (e : h.get? a = some o) (f : soft o = false) : h'.get? a = some o :=
 keepOf S E D e (S.tabNone e f) fun q => nomatch f.symm.trans q
theorem keepRec (S : SRel U ρ H h) (E : Evo b ρ L h h') (D : Dic L h) {cv : Value} {q : Str} : h.CodeRec cv q → (∀ c, cv = .ref c → ¬ C0.tabA c) → h'.CodeRec cv q := by
 rintro ⟨c, o, vs, t, e0, e, hd, hv⟩ ht
 exact ⟨c, o, vs, t, e0, keepOf S E D e (ht c e0) fun _ => ⟨_, hd⟩, hd, hv⟩
noncomputable def Ext (ρ ρ' : List Addr) : Prop := ∀ (i : Nat) (a : Addr), ρ[i]? = some a → ρ'[i]? = some a
theorem Ext.refl : Ext ρ ρ := fun _ _ e => e
theorem Ext.trans {ρ'' : List Addr} (x : Ext ρ ρ') (y : Ext ρ' ρ'') : Ext ρ ρ'' := fun i a e => y i a (x i a e)
theorem CloFd.ext {ps : List (Nat × Pos)} {body : FuncBody} {kd : List (Nat × K3)} {mo : List (Str × Const)} {cs : List (Nat × Nat)} {fd : FuncData} (c : CloFd ps body kd mo cs ρ fd) (x : Ext ρ ρ') : CloFd ps body kd mo cs ρ' fd :=
 { c with cells := fun k i e => let ⟨a, e1, e2⟩ := c.cells k i e; ⟨a, x _ _ e1, e2⟩ }
structure Mv (U U' : Addr → Prop) (ρ ρ' : List Addr) (h h' : Heap) : Prop where
 X : Ext ρ ρ'
 tp : ∀ a vs n, TupAt h a vs n → ¬ U a → TupAt h' a vs n ∧ ¬ U' a
 fn : ∀ a fd, FunAt h a fd → FunAt h' a fd
 rg : ∀ r a b c t u w, IsRange h r a b c t u w → IsRange h' r a b c t u w
 cd : ∀ v q, h.CodeRec v q → (∀ c, v = .ref c → ¬ C0.tabA c) → h'.CodeRec v q
theorem CloR.map (m : Mv U U' ρ ρ' h h') (ps : List (Nat × Pos)) (body : FuncBody) (ok : List (Nat × K3) → Bool) (kd : List (Nat × K3)) (mo : List (Str × Const)) (cs : List (Nat × Nat)) (v : Value) : CloR ρ h ps body ok kd mo cs v → CloR ρ' h' ps body ok kd mo cs v := by
 rintro ⟨a, fd, e, f, c, z, r, t⟩
 exact ⟨a, fd, e, m.fn _ _ f, c.ext m.X, z, m.cd _ _ r t, t⟩
theorem VRel.map (m : Mv U U' ρ ρ' h h') {x : AV} : ∀ {v : Value}, VRel U ρ h x v → VRel U' ρ' h' x v :=
 AV.rec (motive_1 := fun x => ∀ {v : Value}, VRel U ρ h x v → VRel U' ρ' h' x v) (motive_2 := fun xs => ∀ vs, VRels U ρ h xs vs → VRels U' ρ' h' xs vs)
  id (fun _ => id) (fun _ => id) (fun _ => id) (fun _ => id)
  (by rintro _ ih _ ⟨a, vs, n, e, f, z, r⟩; exact ⟨a, vs, n, e, (m.tp _ _ _ f z).1, (m.tp _ _ _ f z).2, ih _ r⟩)
  (by rintro _ _ ⟨a, e, f⟩; exact ⟨a, e, m.X _ _ f⟩) (fun ps body kd mo cs v => CloR.map m ps (.expr body.toE) (fun kd => body.ok C0.P kd 0) kd mo cs v)
  (fun ps body kd mo cs v => CloR.map m ps (.stmts (toSs body)) (fun kd => okSs C0.P kd 0 body) kd mo cs v)
  (by rintro _ _ _ _ ⟨r, t, u, w, e, f⟩; exact ⟨r, t, u, w, e, m.rg _ _ _ _ _ _ _ f⟩)
  (by rintro _ ih _ ⟨a, o, vs, n, e, f, g, i, r⟩; exact ⟨a, o, vs, n, e, f, g, i, ih _ r⟩)
  (fun _ => id) (by rintro _ _ ih ihs _ ⟨v, ws, e, r, rs⟩; exact ⟨v, ws, e, ih r, ihs _ rs⟩) x
theorem VRels.map (m : Mv U U' ρ ρ' h h') : ∀ {xs : List AV} {vs : List Value}, VRels U ρ h xs vs → VRels U' ρ' h' xs vs
 | [], _ => id
 | _ :: _, _ => by
  rintro ⟨v, ws, e, r, rs⟩
  exact ⟨v, ws, e, r.map m, VRels.map m rs⟩
theorem Mv.mono (S : SRel U ρ H h) (E : Evo b ρ L h h') (D : Dic L h) (X : Ext ρ ρ') : Mv U U ρ ρ' h h' where
 X := X
 tp := fun _ _ _ e z => ⟨keepFirm S E D e rfl, z⟩
 fn := fun _ _ e => keepFirm S E D e rfl
 rg := fun _ _ _ _ _ _ _ e => keepFirm S E D e rfl
 cd := fun _ _ r t => keepRec S E D r t
theorem VRel.mono (S : SRel U ρ H h) (E : Evo b ρ L h h') (D : Dic L h) (X : Ext ρ ρ') {x : AV} {v : Value} (r : VRel U ρ h x v) : VRel U ρ' h' x v := r.map (Mv.mono S E D X)
theorem VRels.mono (S : SRel U ρ H h) (E : Evo b ρ L h h') (D : Dic L h) (X : Ext ρ ρ') {xs : List AV} {vs : List Value} (r : VRels U ρ h xs vs) : VRels U ρ' h' xs vs := r.map (Mv.mono S E D X)
theorem Evo.of (hk : ∀ a o, h.get? a = some o → h'.get? a = some o) : Evo b ρ L h h' := ⟨fun a o e => ⟨o, hk a o e⟩, fun a o e _ _ _ => hk a o e⟩
noncomputable def Fresh (ρ ρ' : List Addr) (h : Heap) : Prop := ∀ (i : Nat) (a : Addr), ρ.length ≤ i → ρ'[i]? = some a → h.get? a = none
theorem Fresh.refl : Fresh ρ ρ h := fun _ _ hi e => absurd (get_lt e) (Nat.not_lt.mpr hi)
structure Post (U : Addr → Prop) (b : Nat) (ρ : List Addr) (L : Option Addr) (h : Heap) (ρ' : List Addr) (H' : St) (h' : Heap) : Prop where
 S : SRel U ρ' H' h'
 E : Evo b ρ L h h'
 X : Ext ρ ρ'
 N : Fresh ρ ρ' h
theorem Post.refl (S : SRel U ρ H h) : Post U b ρ L h ρ H h := ⟨S, Evo.of fun _ _ e => e, Ext.refl, Fresh.refl⟩
theorem Ext.old (x : Ext ρ ρ') {i : Nat} {a : Addr} (hi : i < ρ.length) (e : ρ'[i]? = some a) : ρ[i]? = some a :=
 have q := List.getElem?_eq_getElem hi
 (x i _ q).symm.trans e ▸ q
theorem back_none (al : ∀ (a : Addr) (o : Obj), h.get? a = some o → ∃ o', h'.get? a = some o') {a : Addr} (e : h'.get? a = none) : h.get? a = none :=
 Option.eq_none_iff_forall_ne_some.mpr fun o q => let ⟨_, q⟩ := al a o q; nomatch e.symm.trans q
theorem Evo.chain {b' : Nat} {h2 : Heap} {L' : Option Addr} (E : Evo b ρ L h h') (X : Ext ρ ρ') (N : Fresh ρ ρ' h) (E2 : Evo b' ρ' L' h' h2) (hb : b ≤ b') (hL : ∀ a o, h.get? a = some o → L' = some a → L = some a) : Evo b ρ L h h2 :=
 ⟨fun a o e => let ⟨o', e'⟩ := E.alive a o e; E2.alive a o' e', fun a o e hn ht hl => E2.keep a o (E.keep a o e hn ht hl) (fun i hi e' => (Nat.lt_or_ge i ρ.length).elim
  (fun hl => hn i (Nat.le_trans hb hi) (X.old hl e')) fun hl => nomatch (N i a hl e').symm.trans e) ht fun q => hl (hL a o e q)⟩
theorem Fresh.chain {ρ2 : List Addr} (E : Evo b ρ L h h') (N : Fresh ρ ρ' h) (X2 : Ext ρ' ρ2) (N2 : Fresh ρ' ρ2 h') : Fresh ρ ρ2 h := fun i a hi e => (Nat.lt_or_ge i ρ'.length).elim
 (fun hl => N i a hi (X2.old hl e)) fun hl => back_none E.alive (N2 i a hl e)
theorem Post.trans {ρ'' : List Addr} {H'' : St} {h'' : Heap} (p : Post U b ρ L h ρ' H' h') (q : Post U b ρ' L h' ρ'' H'' h'') : Post U b ρ L h ρ'' H'' h'' :=
 ⟨q.S, p.E.chain p.X p.N q.E (Nat.le_refl _) fun _ _ _ e => e, p.X.trans q.X, Fresh.chain p.E p.N q.X q.N⟩
theorem Post.widen (p : Post U b ρ none h ρ' H' h') : Post U b ρ L h ρ' H' h' := ⟨p.S, ⟨p.E.alive, fun a o e hn ht _ => p.E.keep a o e hn ht fun q => nomatch q⟩, p.X, p.N⟩
theorem Post.lower {b' : Nat} (p : Post U b ρ L h ρ' H' h') (hb : b' ≤ b) : Post U b' ρ L h ρ' H' h' :=
 ⟨p.S, ⟨p.E.alive, fun a o e hn => p.E.keep a o e fun i hi => hn i (Nat.le_trans hb hi)⟩, p.X, p.N⟩
theorem Post.frame {L' : Addr} {b' : Nat} {ρ1 ρ2 : List Addr} {H1 H2 : St} {h1 h2 : Heap} (p : Post U b ρ L h ρ1 H1 h1) (q : Post U b' ρ1 (some L') h1 ρ2 H2 h2) (hL : h.get? L' = none) (hb : b ≤ b') : Post U b ρ L h ρ2 H2 h2 :=
 ⟨q.S, p.E.chain p.X p.N q.E hb fun a o e q => (nomatch (Option.some.inj q ▸ hL).symm.trans e), p.X.trans q.X, Fresh.chain p.E p.N q.X q.N⟩
theorem Post.vrel (S : SRel U ρ H h) (p : Post U b ρ L h ρ' H' h') (D : Dic L h) {x : AV} {v : Value} (r : VRel U ρ h x v) : VRel U ρ' h' x v := r.mono S p.E D p.X
theorem Post.vrels (S : SRel U ρ H h) (p : Post U b ρ L h ρ' H' h') (D : Dic L h) {x : List AV} {v : List Value} (r : VRels U ρ h x v) : VRels U ρ' h' x v := r.mono S p.E D p.X
theorem ORel.move {a : Addr} (m : Mv U U' ρ ρ' h h') (k : ∀ o, h.get? a = some o → h'.get? a = some o) {ob : AO} (x : ORel U ρ h a ob) : ORel U' ρ' h' a ob := by
 cases ob with
 | lst => obtain ⟨vs, n, e, r⟩ := x; exact ⟨vs, n, k _ e, r.map m⟩
 | cell => obtain ⟨o, w, e, d, r⟩ := x; exact ⟨o, w, k _ e, d, fun x q => (r x q).imp fun u p => ⟨p.1, p.2.map m⟩⟩
theorem SRel.move (S : SRel U ρ H h) (m : Mv U U' ρ ρ h h') (kB : ∀ a o, C0.B.get? a = some o → h.get? a = some o → h'.get? a = some o) (kr : ∀ (i : Nat) a o, ρ[i]? = some a → h.get? a = some o → h'.get? a = some o)
  (kT : ∀ x ∈ C0.T, ∀ o, h.get? x.2.1 = some o → h'.get? x.2.1 = some o) (kU : ∀ a, U' a → ∃ o, h'.get? a = some o) : SRel U' ρ H h' :=
 ⟨fun a o e => kB a o e (S.base a o e), S.apart, S.nodup, S.len, fun i a ob e hn => (S.objs i a ob e hn).move m fun o => kr i a o e, fun x hx =>
  let ⟨t1, t2, ps, t⟩ := S.tabs x hx
  ⟨t1, t2, ps, kT x hx _ t.at_, t.trip, fun pos cv e => let ⟨r, n⟩ := t.rec_ pos cv e; ⟨m.cd _ _ r n, n⟩⟩, kU⟩
theorem SRel.up (S : SRel U ρ H h) (i : Nat) (a : Addr) (hi : H.length ≤ i) (e : ρ[i]? = some a) : False := absurd (get_lt e) (by rw [S.len]; exact Nat.not_lt.mpr hi)
theorem SRel.keep (S : SRel U ρ H h) (E : Evo H.length ρ L h h') (D : Dic L h) (hL : ∀ a, L = some a → (∀ i : Nat, ρ[i]? ≠ some a) ∧ C0.B.get? a = none ∧ ¬ C0.tabA a) (ht : ∀ x ∈ C0.T, ∀ o, h.get? x.2.1 = some o → h'.get? x.2.1 = some o) : SRel U ρ H h' :=
 S.move (Mv.mono S E D Ext.refl) (fun a o b e => E.keep a o e (fun i hi => S.up i a hi) (fun ⟨x, hx, q⟩ => nomatch (q ▸ (S.tabs x hx).1).symm.trans b) fun q => nomatch (hL a q).2.1.symm.trans b)
  (fun i a o e ho => E.keep a o ho (fun i hi => S.up i a hi) (S.noTab e) fun q => (hL a q).1 i e) ht fun a ha => let ⟨o, e⟩ := S.hid a ha; E.alive a o e
theorem Post.keep (S : SRel U ρ H h) (hk : ∀ a o, h.get? a = some o → h'.get? a = some o) : Post U b ρ L h ρ H h' :=
 ⟨S.keep (Evo.of hk) Dic.none (fun _ q => nomatch q) (fun x _ o e => hk _ o e), Evo.of hk, Ext.refl, Fresh.refl⟩
theorem Post.push (S : SRel U ρ H h) (o : Obj) : Post U b ρ L h ρ H (h.push o) := Post.keep S fun _ _ e => Heap.get?_push_of_some _ e
theorem Ext.app {a : Addr} : Ext ρ (ρ ++ [a]) := fun i c e => by rw [List.getElem?_append_left (get_lt e)]; exact e
theorem app_last {a : Addr} : (ρ ++ [a])[ρ.length]? = some a := by rw [List.getElem?_append_right (Nat.le_refl _), Nat.sub_self]; rfl
theorem app_split {a c : Addr} {i : Nat} (e : (ρ ++ [a])[i]? = some c) : ρ[i]? = some c ∨ (i = ρ.length ∧ c = a) := by
 by_cases hi : i < ρ.length
 ·exact .inl (by rwa [List.getElem?_append_left hi] at e)
 ·have hl := get_lt e
  rw [List.length_append, List.length_singleton] at hl
  obtain rfl := Nat.le_antisymm (Nat.le_of_lt_succ hl) (Nat.le_of_not_lt hi)
  exact .inr ⟨rfl, (Option.some.inj (app_last.symm.trans e)).symm⟩
theorem Mv.exts (X : Ext ρ ρ') : Mv U U ρ ρ' h h := ⟨X, fun _ _ _ e z => ⟨e, z⟩, fun _ _ e => e, fun _ _ _ _ _ _ _ e => e, fun _ _ r _ => r⟩
theorem SRel.adopt (S : SRel U ρ H h) {a : Addr} {ob : AO} (hρ : ∀ i : Nat, ρ[i]? ≠ some a) (hB : C0.B.get? a = none) (r : ORel U (ρ ++ [a]) h a ob) : SRel U (ρ ++ [a]) (H ++ [ob]) h :=
 ⟨S.base, fun i c e => (app_split e).elim (S.apart i c) fun q => q.2 ▸ hB, fun i j c e1 e2 => (app_split e1).elim (fun e1 => (app_split e2).elim (S.nodup i j c e1) fun q => absurd (q.2 ▸ e1) (hρ i))
  fun p => (app_split e2).elim (fun e2 => absurd (p.2 ▸ e2) (hρ j)) fun q => p.1.trans q.1.symm, by rw [List.length_append, List.length_append, S.len]; rfl, fun i c ob' e hn => by
  rw [nth_getElem] at hn
  rcases app_split e with e | ⟨rfl, rfl⟩
  ·obtain ⟨ob2, e2, r2⟩ := S.obj e
   rw [List.getElem?_append_left (S.len ▸ get_lt e), ← nth_getElem, e2] at hn
   exact Option.some.inj hn ▸ r2.move (Mv.exts Ext.app) fun _ e => e
  ·rw [S.len, List.getElem?_append_right (Nat.le_refl _), Nat.sub_self] at hn
   exact Option.some.inj hn ▸ r, S.tabs, S.hid⟩
theorem SRel.old (S : SRel U ρ H h) {a : Addr} (n : h.get? a = none) : (∀ i : Nat, ρ[i]? ≠ some a) ∧ C0.B.get? a = none :=
 ⟨fun k e => let ⟨_, _, hr⟩ := S.obj e; let ⟨_, e', _⟩ := hr.get; (nomatch n.symm.trans e'), Option.eq_none_iff_forall_ne_some.mpr fun o e => nomatch n.symm.trans (S.base a o e)⟩
theorem Post.newObj (S : SRel U ρ H h) {ob : AO} {h' : Heap} (a : Addr) (ha : h.objs.size ≤ a) (hk : ∀ a o, h.get? a = some o → h'.get? a = some o)
  (he : Mv U U ρ (ρ ++ [a]) h h' → ORel U (ρ ++ [a]) h' a ob) : Post U b ρ L h (ρ ++ [a]) (H ++ [ob]) h' :=
 have n := S.old (none_at ha)
 ⟨(Post.keep (b := b) (L := none) S hk).S.adopt n.1 n.2 (he (Mv.mono S (Evo.of hk : Evo b ρ none h h') Dic.none Ext.app)), Evo.of hk, Ext.app, fun i c hi e => (app_split e).elim (fun e => absurd (get_lt e) (Nat.not_lt.mpr hi)) fun q => q.2 ▸ none_at ha⟩
theorem Post.newLst (S : SRel U ρ H h) {xs : List AV} {vs : List Value} (r : VRels U ρ h xs vs) {h' : Heap} {n : Nat} (a : Addr) (ha : h.objs.size ≤ a) (hk : ∀ a o, h.get? a = some o → h'.get? a = some o)
  (he : LstAt h' a vs n) : Post U b ρ L h (ρ ++ [a]) (H ++ [.lst xs]) h' := Post.newObj S a ha hk fun m => ⟨_, _, he, r.map m⟩
theorem Post.setObj (S : SRel U ρ H h) {i : Nat} {a : Addr} {ob : AO} (hi : ρ[i]? = some a) (hb : b ≤ i) (ho : ∀ c o, c ≠ a → h.get? c = some o → h'.get? c = some o) (he : ∃ o, h'.get? a = some o)
  (r : Mv U U ρ ρ h h' → ORel U ρ h' a ob) (D : Dic L h) : Post U b ρ L h ρ (setN ob H i) h' :=
 have E : Evo b ρ L h h' := ⟨fun c o e => (Classical.em (c = a)).elim (fun q => q ▸ he) fun q => ⟨o, ho c o q e⟩, fun c o e hn _ _ => ho c o (fun q => hn i hb (q ▸ hi)) e⟩
 have m := Mv.mono S E D Ext.refl
 ⟨⟨fun c o e => ho c o (fun q => nomatch (q ▸ S.apart i a hi).symm.trans e) (S.base c o e), S.apart, S.nodup, by rw [setN_set, List.length_set]; exact S.len, fun j c ob' e hn => by
  rw [setN_set, nth_getElem] at hn
  by_cases hj : i = j
  ·subst hj
   rw [List.getElem?_set_self (S.len ▸ get_lt hi)] at hn
   exact Option.some.inj hn ▸ Option.some.inj (hi.symm.trans e) ▸ r m
  ·rw [List.getElem?_set_ne hj, ← nth_getElem] at hn
   exact (S.objs j c ob' e hn).move m fun o => ho c o fun q => hj (S.nodup i j a hi (q ▸ e)), fun x hx =>
  let ⟨t1, t2, ps, t⟩ := S.tabs x hx
  ⟨t1, t2, ps, ho _ _ (fun q => S.noTab hi ⟨x, hx, q⟩) t.at_, t.trip, fun pos cv e => let ⟨r, n⟩ := t.rec_ pos cv e; ⟨m.cd _ _ r n, n⟩⟩, fun c hc => let ⟨o, e⟩ := S.hid c hc; E.alive c o e⟩, E, Ext.refl, Fresh.refl⟩
theorem Post.setLst (S : SRel U ρ H h) {i : Nat} {a : Addr} {xs : List AV} {vs : List Value} {m : Nat} (hi : ρ[i]? = some a) (hb : b ≤ i) (ho : ∀ c o, c ≠ a → h.get? c = some o → h'.get? c = some o)
  (he : LstAt h' a vs m) (r : VRels U ρ h xs vs) : Post U b ρ none h ρ (setN (.lst xs) H i) h' := Post.setObj S hi hb ho ⟨_, he⟩ (fun m => ⟨_, _, he, r.map m⟩) Dic.none
end
theorem nOp {α : Type} {x : α} {P : Prop} (h : none = some x) : P := nomatch h
theorem sI1 {α : Type} {a v : α} (h : some a = some v) : a = v := Option.some.inj h
structure Rm (A : Around) (n : Nat) : Prop where
 hd : A.handled = none
 dp : A.depth + n ≤ 900
 un : A.units + 12 * n ≤ 9000
theorem Rm.le {A : Around} {n m : Nat} (r : Rm A n) (h : m ≤ n) : Rm A m := ⟨r.hd, by have := r.dp; (first | lia | omega), by have := r.un; (first | lia | omega)⟩
theorem Rm.units {A : Around} {n : Nat} (r : Rm A n) : A.units < cLine := by have := r.un; have := cLine_is; (first | lia | omega)
theorem Rm.depth {A : Around} {n : Nat} (r : Rm A n) : A.depth < recursionLimit := by have := r.dp; show A.depth < 1000; (first | lia | omega)
noncomputable def FrR (U : Addr → Prop) (ρ : List Addr) (h : Heap) (L : Addr) (lo : Lo) : Prop :=
 ∃ mm : Str → Option Value, h.Ns L mm ∧ ∀ k v, lkp k lo = some v → ∃ val, mm (nm k) = some val ∧ VRel U ρ h v val
noncomputable def tqName : Nat → Str
 | 0 => Str.ofString ""
 | 1 => Str.ofString "<lambda>"
 | k + 2 => nm k
structure Kn where
 A : Around
 kd : List (Nat × K3)
 tq : Nat
 ce : Ce
 env : Env
 L : Addr
 b : Nat
 n : Nat
 R : Rm A n
 kind : env.scope.kind = .function
 loc : ∀ k, isLoc kd k = true → env.kindOf (nm k) = some .local
 cl : ∀ k, isCl kd k = true → env.kindOf (nm k) = some .cell ∨ env.kindOf (nm k) = some .free
 ce1 : ∀ k, isCe kd k = true → env.kindOf (nm k) = some .cell
 glb : ∀ k, isG kd k = true → env.kindOf (nm k) = some .globalImplicit
 eL : env.locals = L
 globals : env.globals = mainGlobals
 builtins : env.builtins = builtinsNs
 ceCl : ∀ k i, lkp k ce = some i → isCl kd k = true
 cov : ∀ k, isCl kd k = true → ∃ i, lkp k ce = some i
 tab : tq ≠ 0 → ∃ x ∈ C0.T, env.code = .ref x.1 ∧ x.2.2 = env.qual ++ tqName tq
structure LOk (ρ : List Addr) (L : Addr) : Prop where
 base : C0.B.get? L = none
 apart : ∀ i : Nat, ρ[i]? ≠ some L
 tab : ¬ C0.tabA L
structure Ws where
 U : Addr → Prop
 ρ : List Addr
 H : St
 s : Shared
 S : SRel U ρ H s.heap
 t : 0 < s.toks
noncomputable def VR (w : Ws) (x : AV) (v : Value) : Prop := VRel w.U w.ρ w.s.heap x v
noncomputable def VRs (w : Ws) (xs : List AV) (vs : List Value) : Prop := VRels w.U w.ρ w.s.heap xs vs
structure Conf (K : Kn) (lo : Lo) (w : Ws) : Prop where
 F : FrR w.U w.ρ w.s.heap K.L lo
 cell : ∀ k i, lkp k K.ce = some i → ∃ a, w.ρ[i]? = some a ∧ K.env.cells.lookup (nm k) = some a
 O : LOk w.ρ K.L
structure FnAt (f : Nat) (fn : Fn) (fa : Addr) (o : Obj) (fd : FuncData) : Prop where
 at_ : C0.B.get? fa = some o
 data : o.data = .func fd
 name : C0.mg (nm fn.nmk) = some (.ref fa)
 params : fd.params = fn.args
 body : fd.body = .stmts (toSs fn.body)
 scope : fd.scope = scopeOf fn.kd fn.mo
 globals : fd.globals = mainGlobals
 builtins : fd.builtins = builtinsNs
 closure : fd.closure = []
 code : C0.B.CodeRec fd.code fd.qualname
 tab : tqOf f ≠ 0 → ∃ x ∈ C0.T, fd.code = .ref x.1 ∧ x.2.2 = (fd.qualname ++ ".<locals>.") ++ tqName (tqOf f)
 dV0 : fn.df = [] → fd.defaults = .none
 dV2 : fn.df ≠ [] → ∃ T o n t, fd.defaults = .ref T ∧ C0.B.get? T = some o ∧ o.data = .seq #[.int 0 t, .none] n
 okH : fn.okH = true
 okB : f ≠ 13 → f ≠ 20 → okSs C0.P fn.kd (tqOf f) fn.body = true
structure Ok0 : Prop where
 P : C0.P = fns
 g : C0.B.Ns mainGlobals C0.mg
 b : C0.B.Ns builtinsNs C0.mb
 lim : C0.B.NoLimit
 bat : ∃ bm o, C0.mg "__builtins__" = some (.ref bm) ∧ bm ≠ builtinsNs ∧ bm ≠ mainGlobals ∧ C0.B.get? bm = some o ∧ o.cls = .type "module" ∧ o.dict = some builtinsNs ∧ o.data = .plain
 bl : ∀ k v, (k, v) ∈ ([(8, .builtin "len"), (80, .builtin "sum"), (150, .type "list"), (112, .type "tuple"), (151, .builtin "sorted"), (22, .builtin "divmod"), (63, .builtin "max"), (64, .builtin "min"), (72, .type "int"), (105, .builtin "chr"), (92, .type "range"), (82, .type "enumerate"), (108, .type "zip"), (41, .type "reversed"), (93, .type "str"), (43, .type "ZeroDivisionError")] : List (Nat × Value)) →
  C0.mg (nm k) = none ∧ C0.mb (nm k) = some v
 booked : NoneBooked C0.B
 gc0 : ∃ t, C0.mg (nm 2) = some (.str (toS [46, 46, 46]) t)
 gc1 : ∃ t, C0.mg (nm 12) = some (.int 4000 t)
 fn : ∀ f fn, nth C0.P f = some fn → ∃ fa o fd, FnAt f fn fa o fd
 tinj : ∀ x ∈ C0.T, ∀ y ∈ C0.T, x.2.1 = y.2.1 → x = y
theorem ns_at {h h' : Heap} {a : Addr} {m : Str → Option Value} : h.Ns a m → (∀ o, h.get? a = some o → h'.get? a = some o) → h'.Ns a m := by
 rintro ⟨o, es, ep, e, r⟩ k
 exact ⟨o, es, ep, k o e, r⟩
theorem ns_dic {h : Heap} {a : Addr} {m : Str → Option Value} : h.Ns a m → Dic (some a) h := by
 rintro ⟨o, es, ep, e, hd, _⟩ c q
 exact Option.some.inj q ▸ ⟨o, es, ep, e, hd⟩
structure Le (b : Nat) (L : Option Addr) (w w' : Ws) : Prop where
 p : Post w.U b w.ρ L w.s.heap w'.ρ w'.H w'.s.heap
 t : w.s.toks ≤ w'.s.toks
 u : w'.U = w.U
 s : w'.s = { w.s with heap := w'.s.heap, toks := w'.s.toks }
section
variable {A : Around} {b : Nat} {L : Option Addr} {w w' w2 : Ws} {K : Kn} {lo lo' : Lo} {x : AV} {xs : List AV} {v : Value} {vs : List Value}
noncomputable def Ws.next {ρ' : List Addr} {H' : St} {h' : Heap} {tk : Nat} (w : Ws) (p : Post w.U b w.ρ L w.s.heap ρ' H' h') (l : w.s.toks ≤ tk) : Ws := ⟨w.U, ρ', H', { w.s with heap := h', toks := tk }, p.S, Nat.lt_of_lt_of_le w.t l⟩
theorem Le.next {ρ' : List Addr} {H' : St} {h' : Heap} {tk : Nat} (p : Post w.U b w.ρ L w.s.heap ρ' H' h') (l : w.s.toks ≤ tk) : Le b L w (w.next p l) := ⟨p, l, rfl, rfl⟩
theorem Le.refl : Le b L w w := ⟨Post.refl w.S, Nat.le_refl _, rfl, rfl⟩
theorem Le.trans (l : Le b L w w') (m : Le b L w' w2) : Le b L w w2 := ⟨l.p.trans (l.u ▸ m.p), Nat.le_trans l.t m.t, m.u.trans l.u, m.s.trans (by rw [l.s])⟩
theorem Le.widen (l : Le b none w w') : Le b L w w' := ⟨l.p.widen, l.t, l.u, l.s⟩
theorem Le.lower {b' : Nat} (l : Le b L w w') (h : b' ≤ b) : Le b' L w w' := ⟨l.p.lower h, l.t, l.u, l.s⟩
theorem Le.mv (l : Le b L w w') (D : Dic L w.s.heap) : Mv w.U w'.U w.ρ w'.ρ w.s.heap w'.s.heap := l.u.symm ▸ Mv.mono w.S l.p.E D l.p.X
theorem VR.upL (r : VR w x v) (l : Le b L w w') (D : Dic L w.s.heap) : VR w' x v := VRel.map (l.mv D) r
theorem VRs.upL (r : VRs w xs vs) (l : Le b L w w') (D : Dic L w.s.heap) : VRs w' xs vs := VRels.map (l.mv D) r
theorem VR.up (r : VR w x v) (l : Le b none w w') : VR w' x v := r.upL l Dic.none
theorem VRs.up (r : VRs w xs vs) (l : Le b none w w') : VRs w' xs vs := r.upL l Dic.none
theorem Conf.dic (c : Conf K lo w) : Dic (some K.L) w.s.heap := by
 obtain ⟨_, n, _⟩ := c.F
 exact ns_dic n
theorem Conf.upL (c : Conf K lo w) (l : Le b (some K.L) w w') (F : FrR w'.U w'.ρ w'.s.heap K.L lo') : Conf K lo' w' :=
 ⟨F, fun k i e => let ⟨a, e1, e2⟩ := c.cell k i e; ⟨a, l.p.X _ _ e1, e2⟩, ⟨c.O.base, fun i e => by
  obtain ⟨o, _, _, hl, _⟩ := c.dic K.L rfl
  exact (Nat.lt_or_ge i w.ρ.length).elim (fun hi => c.O.apart i (l.p.X.old hi e)) fun hi => (nomatch (l.p.N i K.L hi e).symm.trans hl), c.O.tab⟩⟩
theorem FrR.up (F : FrR w.U w.ρ w.s.heap K.L lo) (O : LOk w.ρ K.L) (l : Le b none w w') : FrR w'.U w'.ρ w'.s.heap K.L lo := by
 obtain ⟨mm, n, r⟩ := F
 exact ⟨mm, ns_at n fun o e => l.p.E.keep K.L o e (fun i _ => O.apart i) O.tab (fun q => nomatch q), fun k v e => (r k v e).imp fun _ q => ⟨q.1, VR.up q.2 l⟩⟩
theorem Conf.up (c : Conf K lo w) (l : Le b none w w') : Conf K lo w' := c.upL l.widen (c.F.up c.O l)
noncomputable def Op {γ : Type} (P : γ → Prop) (o : Option γ) : Prop := ∀ r, o = some r → P r
section
variable {γ α : Type} {P : γ → Prop} {PV : Value → γ → Prop} {PL : List Value → γ → Prop} {o p : Option γ} {c : Bool} {u : AV}
theorem Op.none : Op P none := fun _ e => nomatch e
theorem Op.some {r : γ} (h : P r) : Op P (some r) := fun _ e => Option.some.inj e ▸ h
theorem Op.gd (k : c = true → Op P o) : Op P (gd c o) := by
 cases c with
 | true => exact k rfl
 | false => exact Op.none
theorem Op.cnd (k : c = true → Op P o) (n : c = false → Op P p) : Op P (cond c o p) := by
 cases c with
 | true => exact k rfl
 | false => exact n rfl
theorem Op.alt (k : Op P o) (n : Op P p) : Op P (alt o p) := by
 cases o with
 | none => exact n
 | some => exact k
theorem Op.ob1 {a : Option α} {f : α → Option γ} (k : ∀ x, a = .some x → Op P (f x)) : Op P (ob1 a f) := by
 cases a with
 | none => exact Op.none
 | some x => exact k x rfl
theorem VR.osC (r : VR w u v) (PV : Value → γ → Prop) (k : ∀ a, Op (PV (.ref a)) o) : Op (PV v) (asC u o) := by
 cases u with
 | cloX ps body kd mo cs => obtain ⟨a, _, rfl, _⟩ := r; exact k a
 | _ => exact Op.none
theorem VR.osZ {f : List AV → Option γ} (r : VR w u v) (PV : Value → γ → Prop) (k : ∀ i a o vs n, C0.B.get? a = some o → o.cls = .type "list" → o.data = .seq vs.toArray n → VRs w i vs → Op (PV (.ref a)) (f i)) : Op (PV v) (asZ u f) := by
 cases u with
 | frz i => obtain ⟨a, o, vs, n, rfl, e, g, h, r⟩ := r; exact k i a o vs n e g h r
 | _ => exact Op.none
theorem getLst_rel {i : Nat} {a : Addr} (e : getLst w.H i = some xs) (ha : w.ρ[i]? = some a) : ∃ vs n, LstAt w.s.heap a vs n ∧ VRs w xs vs := by
 unfold getLst at e
 split at e
 ·rename_i q
  exact w.S.objs i a (.lst xs) ha (Option.some.inj e ▸ q)
 ·exact nomatch e
theorem VR.osN {o : Option γ} (r : VR w u v) (PV : Value → γ → Prop) (k : Op (PV .none) o) : Op (PV v) (asN u o) := by
 cases u with
 | none => exact r ▸ k
 | _ => exact Op.none
theorem VR.osB {f : Bool → Option γ} (r : VR w u v) (PV : Value → γ → Prop) (k : ∀ i, Op (PV (.bool i)) (f i)) : Op (PV v) (asB u f) := by
 cases u with
 | bool i => exact r ▸ k i
 | _ => exact Op.none
theorem VR.osI {f : Int → Option γ} (r : VR w u v) (PV : Value → γ → Prop) (k : ∀ i k, Op (PV (.int i k)) (f i)) : Op (PV v) (asI u f) := by
 cases u with
 | int i => obtain ⟨t, rfl⟩ := r; exact k i t
 | _ => exact Op.none
theorem VR.osF {f : Fl → Option γ} (r : VR w u v) (PV : Value → γ → Prop) (k : ∀ i k, k ≠ 0 → Op (PV (.float i.u k)) (f i)) : Op (PV v) (asF u f) := by
 cases u with
 | flt i => obtain ⟨t, rfl, z⟩ := r; exact k i t z
 | _ => exact Op.none
theorem VR.osS {f : List Nat → Option γ} (r : VR w u v) (PV : Value → γ → Prop) (k : ∀ i k, Op (PV (.str (toS i) k)) (f i)) : Op (PV v) (asS u f) := by
 cases u with
 | str i => obtain ⟨t, rfl⟩ := r; exact k i t
 | _ => exact Op.none
theorem VR.osT {f : List AV → Option γ} (r : VR w u v) (PV : Value → γ → Prop) (k : ∀ i a vs n, TupAt w.s.heap a vs n → VRs w i vs → ¬ w.U a → Op (PV (.ref a)) (f i)) : Op (PV v) (asT u f) := by
 cases u with
 | tup i => obtain ⟨a, vs, n, rfl, e, z, r⟩ := r; exact k i a vs n e r z
 | _ => exact Op.none
theorem VR.osR {f : Nat → Option γ} (r : VR w u v) (PV : Value → γ → Prop) (k : ∀ i a, w.ρ[i]? = some a → Op (PV (.ref a)) (f i)) : Op (PV v) (asR u f) := by
 cases u with
 | ref i => obtain ⟨a, rfl, e⟩ := r; exact k i a e
 | _ => exact Op.none
theorem VR.osG {f : Int → Int → Int → Option γ} (r : VR w u v) (PV : Value → γ → Prop) (k : ∀ p q c a t0 t1 t2, IsRange w.s.heap a p q c t0 t1 t2 → Op (PV (.ref a)) (f p q c)) : Op (PV v) (asG u f) := by
 cases u with
 | rng p q c => obtain ⟨a, t, t1, t2, rfl, e⟩ := r; exact k p q c a t t1 t2 e
 | _ => exact Op.none
theorem VR.osL {f : Nat → List AV → Option γ} (r : VR w u v) (PV : Value → γ → Prop) (k : ∀ i a xs vs n, w.ρ[i]? = some a → LstAt w.s.heap a vs n → VRs w xs vs → Op (PV (.ref a)) (f i xs)) : Op (PV v) (asL w.H u f) :=
 r.osR PV fun i a e => Op.ob1 fun xs q => (getLst_rel q e).elim fun vs q => q.elim fun n q => k i a xs vs n e q.1 q.2
theorem VRs.o0 {o : Option γ} (r : VRs w xs vs) (PL : List Value → γ → Prop) (k : Op (PL []) o) : Op (PL vs) (tk0 xs o) := by
 cases xs with
 | nil => exact r ▸ k
 | cons => exact Op.none
theorem VRs.oc {f : AV → List AV → Option γ} (r : VRs w xs vs) (PL : List Value → γ → Prop) (k : ∀ x r v vs, VR w x v → VRs w r vs → Op (PL (v :: vs)) (f x r)) : Op (PL vs) (tkc xs f) := by
 cases xs with
 | nil => exact Op.none
 | cons x r' => obtain ⟨v, ws, rfl, a, c⟩ := r; exact k x r' v ws a c
theorem VRs.o1 {f : AV → Option γ} (r : VRs w xs vs) (PL : List Value → γ → Prop) (k : ∀ x v, VR w x v → Op (PL [v]) (f x)) : Op (PL vs) (tk1 xs f) := r.oc PL fun x _ v _ a r => r.o0 (fun z => PL (v :: z)) (k x v a)
theorem VRs.o2 {f : AV → AV → Option γ} (r : VRs w xs vs) (PL : List Value → γ → Prop) (k : ∀ x y v v2, VR w x v → VR w y v2 → Op (PL [v, v2]) (f x y)) : Op (PL vs) (tk2 xs f) :=
 r.oc PL fun x _ v _ a r => r.o1 (fun z => PL (v :: z)) fun y v2 c => k x y v v2 a c
theorem VRs.o3 {f : AV → AV → AV → Option γ} (r : VRs w xs vs) (PL : List Value → γ → Prop) (k : ∀ x y z v v2 v3, VR w x v → VR w y v2 → VR w z v3 → Op (PL [v, v2, v3]) (f x y z)) : Op (PL vs) (tk3 xs f) :=
 r.oc PL fun x _ v _ a r => r.o2 (fun z => PL (v :: z)) fun y z v2 v3 c d => k x y z v v2 v3 a c d
end
noncomputable def EvP {γ β : Type} (b : Nat) (L : Option Addr) (R : Ws → γ → β → Prop) (w : Ws) (T : (β → Shared → Prop) → (Value → Shared → Prop) → Prop) (r : γ) : Prop := ∀ Q E, (∀ w' v, Le b L w w' → R w' r v → Q v w'.s) → T Q E
noncomputable def Ev {γ β : Type} (b : Nat) (L : Option Addr) (R : Ws → γ → β → Prop) (w : Ws) (T : (β → Shared → Prop) → (Value → Shared → Prop) → Prop) (o : Option γ) : Prop :=
 Op (EvP b L R w T) o
noncomputable def Pr {α β : Type} (R : Ws → α → β → Prop) (w : Ws) (r : α × St) (v : β) : Prop := w.H = r.2 ∧ R w r.1 v
noncomputable def wq {β : Type} (A : Around) (t : Sem β) (w : Ws) (Q : β → Shared → Prop) (E : Value → Shared → Prop) : Prop := wpAny M0 A t Q E w.s
noncomputable def Bq (_ : Ws) (a v : Bool) : Prop := v = a
noncomputable abbrev Ea (A : Around) (b : Nat) (w : Ws) (t : Sem Value) (o : Option (AV × St)) : Prop := Ev b none (Pr VR) w (wq A t w) o
noncomputable abbrev Eb (A : Around) (b : Nat) (w : Ws) (t : Sem Bool) (o : Option (Bool × St)) : Prop := Ev b none (Pr Bq) w (wq A t w) o
section
variable {γ β α δ : Type} {R2 : Ws → γ → β → Prop} {R : Ws → α → δ → Prop} {T T1 : (β → Shared → Prop) → (Value → Shared → Prop) → Prop} {o p : Option γ} {c : Bool} {TV : Value → (β → Shared → Prop) → (Value → Shared → Prop) → Prop} {TL : List Value → (β → Shared → Prop) → (Value → Shared → Prop) → Prop}
theorem Ev.none : Ev b L R2 w T none := Op.none
theorem Ev.to (h : Ev b L R2 w T1 o) (k : ∀ Q E, T1 Q E → T Q E) : Ev b L R2 w T o := fun r e Q E q => k Q E (h r e Q E q)
theorem Ev.gd (k : c = true → Ev b L R2 w T o) : Ev b L R2 w T (gd c o) := Op.gd k
theorem Ev.cnd (k : c = true → Ev b L R2 w T o) (n : c = false → Ev b L R2 w T p) : Ev b L R2 w T (cond c o p) := Op.cnd k n
theorem Ev.alt (k : Ev b L R2 w T o) (n : Ev b L R2 w T p) : Ev b L R2 w T (alt o p) := Op.alt k n
theorem Ev.ob1 {a : Option α} {f : α → Option γ} (k : ∀ x, a = some x → Ev b L R2 w T (f x)) : Ev b L R2 w T (ob1 a f) := Op.ob1 k
theorem Ev.bind {t1 : Sem δ} {a : Option (α × St)} {f : α → St → Option γ} {G : δ → Shared → (β → Shared → Prop) → (Value → Shared → Prop) → Prop} (h1 : Ev b Option.none (Pr R) w (wq A t1 w) a) (k : ∀ Q E, wpAny M0 A t1 (fun v s => G v s Q E) E w.s → T Q E)
  (h2 : ∀ w' u v, Le b Option.none w w' → R w' u v → Ev b L R2 w' (G v w'.s) (f u w'.H)) : Ev b L R2 w T (ob2 a f) := by
 cases a with
 | none => exact Ev.none
 | some a => exact fun r e Q E q => k Q E (h1 a rfl _ E fun w' v l r' => h2 w' a.1 v l r'.2 r (r'.1 ▸ e) Q E fun w2 v2 l2 => q w2 v2 (l.widen.trans l2))
theorem Ev.bindL {t1 : Sem δ} {a : Option (α × St)} {f : α → St → Option γ} {G : δ → Shared → (β → Shared → Prop) → (Value → Shared → Prop) → Prop} (h1 : Ev b L (Pr R) w (wq A t1 w) a) (k : ∀ Q E, wpAny M0 A t1 (fun v s => G v s Q E) E w.s → T Q E)
  (h2 : ∀ w' u v, Le b L w w' → R w' u v → Ev b L R2 w' (G v w'.s) (f u w'.H)) : Ev b L R2 w T (ob2 a f) := by
 cases a with
 | none => exact Ev.none
 | some a => exact fun r e Q E q => k Q E (h1 a rfl _ E fun w' v l r' => h2 w' a.1 v l r'.2 r (r'.1 ▸ e) Q E fun w2 v2 l2 => q w2 v2 (l.trans l2))
theorem Ev.bd {t1 : Sem δ} {a : Option (α × St)} {f : α → St → Option γ} {G : δ → Shared → (β → Shared → Prop) → (Value → Shared → Prop) → Prop} (h1 : Ev b Option.none (Pr R) w (wq A t1 w) a)
  (h2 : ∀ w' u v, Le b Option.none w w' → R w' u v → Ev b L R2 w' (G v w'.s) (f u w'.H)) : Ev b L R2 w (fun Q E => wpAny M0 A t1 (fun v s => G v s Q E) E w.s) (ob2 a f) := Ev.bind h1 (fun _ _ h => h) h2
noncomputable def Pu (R : Ws → α → δ → Prop) (H : St) (w : Ws) (r : α) (v : δ) : Prop := w.H = H ∧ R w r v
theorem Ev.b1 {t1 : Sem δ} {a : Option α} {f : α → Option γ} {G : δ → Shared → (β → Shared → Prop) → (Value → Shared → Prop) → Prop} (h1 : Ev b Option.none (Pu R w.H) w (wq A t1 w) a) (k : ∀ Q E, wpAny M0 A t1 (fun v s => G v s Q E) E w.s → T Q E)
  (h2 : ∀ w' u v, Le b Option.none w w' → w'.H = w.H → R w' u v → Ev b L R2 w' (G v w'.s) (f u)) : Ev b L R2 w T (Mine.ob1 a f) := by
 cases a with
 | none => exact Ev.none
 | some a => exact fun r e Q E q => k Q E (h1 a rfl _ E fun w' v l r' => h2 w' a v l r'.1 r'.2 r e Q E fun w2 v2 l2 => q w2 v2 (l.widen.trans l2))
theorem Ev.bB {t1 : Sem Bool} {a : Option (Bool × St)} {f g : St → Option γ} {G : Bool → Shared → (β → Shared → Prop) → (Value → Shared → Prop) → Prop} (h1 : Eb A b w t1 a) (k : ∀ Q E, wpAny M0 A t1 (fun v s => G v s Q E) E w.s → T Q E)
  (h2 : ∀ w', Le b Option.none w w' → Ev b L R2 w' (G true w'.s) (f w'.H)) (h3 : ∀ w', Le b Option.none w w' → Ev b L R2 w' (G false w'.s) (g w'.H)) : Ev b L R2 w T (obB a f g) :=
 Ev.bind h1 k fun w' u v l e => by
  cases e
  cases u with
  | true => exact h2 w' l
  | false => exact h3 w' l
end
section
variable {γ β : Type} {R2 : Ws → γ → β → Prop} {u : AV}
theorem VR.asN {o : Option γ} (r : VR w u v) (t : Value → Sem β) (k : Ev b L R2 w (wq A (t .none) w) o) : Ev b L R2 w (wq A (t v) w) (asN u o) := VR.osN r (fun v => EvP b L R2 w (wq A (t v) w)) k
theorem VR.asB {f : Bool → Option γ} (r : VR w u v) (t : Value → Sem β) (k : ∀ i, Ev b L R2 w (wq A (t (.bool i)) w) (f i)) : Ev b L R2 w (wq A (t v) w) (asB u f) := VR.osB r (fun v => EvP b L R2 w (wq A (t v) w)) k
theorem VR.asI {f : Int → Option γ} (r : VR w u v) (t : Value → Sem β) (k : ∀ i k, Ev b L R2 w (wq A (t (.int i k)) w) (f i)) : Ev b L R2 w (wq A (t v) w) (asI u f) := VR.osI r (fun v => EvP b L R2 w (wq A (t v) w)) k
theorem VR.asF {f : Fl → Option γ} (r : VR w u v) (t : Value → Sem β) (k : ∀ i k, k ≠ 0 → Ev b L R2 w (wq A (t (.float i.u k)) w) (f i)) : Ev b L R2 w (wq A (t v) w) (asF u f) := VR.osF r (fun v => EvP b L R2 w (wq A (t v) w)) k
theorem VR.asS {f : List Nat → Option γ} (r : VR w u v) (t : Value → Sem β) (k : ∀ i k, Ev b L R2 w (wq A (t (.str (toS i) k)) w) (f i)) : Ev b L R2 w (wq A (t v) w) (asS u f) := VR.osS r (fun v => EvP b L R2 w (wq A (t v) w)) k
theorem VR.asT {f : List AV → Option γ} (r : VR w u v) (t : Value → Sem β) (k : ∀ i a vs n, TupAt w.s.heap a vs n → VRs w i vs → ¬ w.U a → Ev b L R2 w (wq A (t (.ref a)) w) (f i)) : Ev b L R2 w (wq A (t v) w) (asT u f) := VR.osT r (fun v => EvP b L R2 w (wq A (t v) w)) k
theorem VR.asR {f : Nat → Option γ} (r : VR w u v) (t : Value → Sem β) (k : ∀ i a, w.ρ[i]? = some a → Ev b L R2 w (wq A (t (.ref a)) w) (f i)) : Ev b L R2 w (wq A (t v) w) (asR u f) := VR.osR r (fun v => EvP b L R2 w (wq A (t v) w)) k
theorem VR.asG {f : Int → Int → Int → Option γ} (r : VR w u v) (t : Value → Sem β) (k : ∀ p q c a t0 t1 t2, IsRange w.s.heap a p q c t0 t1 t2 → Ev b L R2 w (wq A (t (.ref a)) w) (f p q c)) : Ev b L R2 w (wq A (t v) w) (asG u f) := VR.osG r (fun v => EvP b L R2 w (wq A (t v) w)) k
theorem VR.asL {f : Nat → List AV → Option γ} (r : VR w u v) (t : Value → Sem β) (k : ∀ i a xs vs n, w.ρ[i]? = some a → LstAt w.s.heap a vs n → VRs w xs vs → Ev b L R2 w (wq A (t (.ref a)) w) (f i xs)) : Ev b L R2 w (wq A (t v) w) (asL w.H u f) := VR.osL r (fun v => EvP b L R2 w (wq A (t v) w)) k
theorem VRs.t0 {o : Option γ} (r : VRs w xs vs) (t : List Value → Sem β) (k : Ev b L R2 w (wq A (t []) w) o) : Ev b L R2 w (wq A (t vs) w) (tk0 xs o) := VRs.o0 r (fun v => EvP b L R2 w (wq A (t v) w)) k
theorem VRs.tc {f : AV → List AV → Option γ} (r : VRs w xs vs) (t : List Value → Sem β) (k : ∀ x r v vs, VR w x v → VRs w r vs → Ev b L R2 w (wq A (t (v :: vs)) w) (f x r)) : Ev b L R2 w (wq A (t vs) w) (tkc xs f) := VRs.oc r (fun v => EvP b L R2 w (wq A (t v) w)) k
theorem VRs.t1 {f : AV → Option γ} (r : VRs w xs vs) (t : List Value → Sem β) (k : ∀ x v, VR w x v → Ev b L R2 w (wq A (t [v]) w) (f x)) : Ev b L R2 w (wq A (t vs) w) (tk1 xs f) := VRs.o1 r (fun v => EvP b L R2 w (wq A (t v) w)) k
theorem VRs.t2 {f : AV → AV → Option γ} (r : VRs w xs vs) (t : List Value → Sem β) (k : ∀ x y v v2, VR w x v → VR w y v2 → Ev b L R2 w (wq A (t [v, v2]) w) (f x y)) : Ev b L R2 w (wq A (t vs) w) (tk2 xs f) := VRs.o2 r (fun v => EvP b L R2 w (wq A (t v) w)) k
theorem VRs.t3 {f : AV → AV → AV → Option γ} (r : VRs w xs vs) (t : List Value → Sem β) (k : ∀ x y z v v2 v3, VR w x v → VR w y v2 → VR w z v3 → Ev b L R2 w (wq A (t [v, v2, v3]) w) (f x y z)) : Ev b L R2 w (wq A (t vs) w) (tk3 xs f) := VRs.o3 r (fun v => EvP b L R2 w (wq A (t v) w)) k
end
theorem Et.tup {T : (Value → Shared → Prop) → (Value → Shared → Prop) → Prop} {n : Nat} (r : VRs w xs vs) (k : ∀ Q E, Q (.ref w.s.heap.objs.size) { w.s with heap := w.s.heap.push { cls := .type "tuple", data := .seq vs.toArray n } } → T Q E) : Ev b none (Pr VR) w T (some (.tup xs, w.H)) :=
 Op.some fun Q E q => k Q E (q (w.next (tk := w.s.toks) (Post.push w.S _) (Nat.le_refl _)) _ (Le.next _ _) ⟨rfl, _, _, _, rfl, Heap.get?_push_size _ rfl, w.S.notHid (Nat.le_refl _), VRs.up r (Le.next (b := b) (tk := w.s.toks) (Post.push w.S _) (Nat.le_refl _))⟩)
theorem Et.lst {T : (Value → Shared → Prop) → (Value → Shared → Prop) → Prop} {n : Nat} (r : VRs w xs vs) (k : ∀ Q E, Q (.ref w.s.heap.objs.size) { w.s with heap := w.s.heap.push { cls := .type "list", data := .seq vs.toArray n } } → T Q E) : Ev b none (Pr VR) w T (newL w.H xs) :=
 Op.some fun Q E q => k Q E (q (w.next (tk := w.s.toks) (Post.newLst w.S r w.s.heap.objs.size (Nat.le_refl _) (fun _ _ e => Heap.get?_push_of_some _ e) (Heap.get?_push_size _ rfl)) (Nat.le_refl _)) _ (Le.next _ _) ⟨rfl, _, rfl, w.S.len ▸ app_last⟩)
theorem Ev.m1 {γ β : Type} {R : Ws → γ → β → Prop} {T : (β → Shared → Prop) → (Value → Shared → Prop) → Prop} {a : Option γ} (h : Ev b L (Pu R w.H) w T a) : Ev b L (Pr R) w T (Mine.ob1 a fun v => some (v, w.H)) := Ev.ob1 fun x e => Op.some (h x e)
theorem Ev.later {γ β : Type} {R : Ws → γ → β → Prop} {T : (β → Shared → Prop) → (Value → Shared → Prop) → Prop} {o : Option γ} (l : Le b L w w') (h : Ev b L R w' T o) : Ev b L R w T o := fun r e Q E q => h r e Q E fun w2 v l2 => q w2 v (l.trans l2)
theorem Ep.at {γ β : Type} {R : Ws → γ → β → Prop} {T : (β → Shared → Prop) → (Value → Shared → Prop) → Prop} {x : γ} {val : β} {tk : Nat} (l : w.s.toks ≤ tk) (r : R (w.next (Post.refl w.S : Post w.U b w.ρ none w.s.heap w.ρ w.H w.s.heap) l) x val) (k : ∀ Q E, Q val { w.s with toks := tk } → T Q E) : Ev b none (Pu R w.H) w T (some x) :=
 Op.some fun Q E q => k Q E (q (w.next (Post.refl w.S) l) val (Le.next _ l) ⟨rfl, r⟩)
section
variable {β : Type} {t : Sem Value} {H' : St}
theorem Ea.of (k : ∀ Q E, (∀ h' tk ρ' val, Post w.U b w.ρ none w.s.heap ρ' H' h' → VRel w.U ρ' h' x val → Q val { w.s with heap := h', toks := tk }) → wpAny M0 A t Q E w.s) : Ea A b w t (some (x, H')) := fun r e Q E q => by
 cases e
 exact wpAny_with_toks (n := w.s.toks) (Nat.le_refl _) (k (fun a s' => w.s.toks ≤ s'.toks → Q a s') _ fun h' tk ρ' val p r hle => q (w.next p hle) val (Le.next p hle) ⟨rfl, r⟩)
theorem Eb.of {c : Bool} {t0 : Sem Bool} (k : ∀ Q E, (∀ h' tk ρ', Post w.U b w.ρ none w.s.heap ρ' H' h' → Q c { w.s with heap := h', toks := tk }) → wpAny M0 A t0 Q E w.s) : Eb A b w t0 (some (c, H')) := fun r e Q E q => by
 cases e
 exact wpAny_with_toks (n := w.s.toks) (Nat.le_refl _) (k (fun a s' => w.s.toks ≤ s'.toks → Q a s') _ fun h' tk ρ' p hle => q (w.next p hle) c (Le.next p hle) ⟨rfl, rfl⟩)
theorem Ea.imm {tk : Nat} {val : Value} (r : VR w x val) (k : ∀ Q E, Q val { w.s with toks := tk } → wpAny M0 A t Q E w.s) : Ea A b w t (some (x, w.H)) := Ea.of fun Q E q => k Q E (q _ tk _ _ (Post.refl w.S) r)
theorem Ea.now {val : Value} (r : VR w x val) (k : ∀ Q E, Q val w.s → wpAny M0 A t Q E w.s) : Ea A b w t (some (x, w.H)) := Ea.imm (tk := w.s.toks) r k
theorem Eb.now {t : Sem Bool} {c : Bool} (k : ∀ Q E, Q c w.s → wpAny M0 A t Q E w.s) : Eb A b w t (some (c, w.H)) := Eb.of fun Q E q => k Q E (q _ w.s.toks _ (Post.refl w.S))
theorem Ep.imm {α β : Type} {R : Ws → α → β → Prop} {t : Sem β} {x : α} {tk : Nat} {val : β} (r : ∀ l : w.s.toks ≤ tk, R (w.next (Post.refl w.S : Post w.U b w.ρ none w.s.heap w.ρ w.H w.s.heap) l) x val) (k : ∀ Q E, Q val { w.s with toks := tk } → wpAny M0 A t Q E w.s) : Ev b none (Pu R w.H) w (wq A t w) (some x) := fun _ e Q E q => by
 cases e
 exact wpAny_with_toks (n := w.s.toks) (Nat.le_refl _) (k (fun a s' => w.s.toks ≤ s'.toks → Q a s') _ fun hle => q (w.next (Post.refl w.S) hle) val (Le.next _ hle) ⟨rfl, r hle⟩)
theorem Ep.bb {t : Sem Bool} {c : Bool} {tk : Nat} (k : ∀ Q E, Q c { w.s with toks := tk } → wpAny M0 A t Q E w.s) : Ev b none (Pu Bq w.H) w (wq A t w) (some c) := Ep.imm (fun _ => rfl) k
noncomputable def Bv (_ : Ws) (a : Bool) (v : Value) : Prop := v = .bool a
theorem Ep.vv {t : Sem Value} {c : Bool} {tk : Nat} (k : ∀ Q E, Q (.bool c) { w.s with toks := tk } → wpAny M0 A t Q E w.s) : Ev b none (Pu Bv w.H) w (wq A t w) (some c) := Ep.imm (fun _ => rfl) k
theorem Ea.ret {H' : St} {val : Value} (e : w.H = H') (r : VR w x val) : Ev b L (Pr VR) w (fun Q E => Q val w.s) (some (x, H')) := Op.some fun Q E q => q w val Le.refl ⟨e, r⟩
theorem Eb.ret {H' : St} {c d : Bool} (e : w.H = H') (r : d = c) : Ev b L (Pr Bq) w (fun Q E => Q d w.s) (some (c, H')) := Op.some fun Q E q => q w d Le.refl ⟨e, r⟩
theorem Ea.new {h' : Heap} {tk : Nat} {val : Value} (hk : ∀ a o, w.s.heap.get? a = some o → h'.get? a = some o) (r : Mv w.U w.U w.ρ w.ρ w.s.heap h' → VRel w.U w.ρ h' x val) (k : ∀ Q E, Q val { w.s with heap := h', toks := tk } → wpAny M0 A t Q E w.s) : Ea A b w t (some (x, w.H)) :=
 Ea.of fun Q E q => k Q E (q _ tk _ _ (Post.keep w.S hk) (r (Mv.mono w.S (Evo.of hk : Evo b w.ρ none w.s.heap h') Dic.none Ext.refl)))
theorem Ea.lst {h' : Heap} {n tk : Nat} {a : Addr} (r : VRs w xs vs) (k : ∀ Q E, Q (.ref a) { w.s with heap := h', toks := tk } → wpAny M0 A t Q E w.s) (ha : w.s.heap.objs.size ≤ a) (hk : ∀ a o, w.s.heap.get? a = some o → h'.get? a = some o) (he : LstAt h' a vs n) : Ea A b w t (newL w.H xs) :=
 Ea.of fun Q E q => k Q E (q h' tk _ _ (Post.newLst w.S r a ha hk he) ⟨a, rfl, w.S.len ▸ app_last⟩)
theorem Ea.push {n tk : Nat} (r : VRs w xs vs) (k : ∀ Q E, Q (.ref w.s.heap.objs.size) { w.s with heap := w.s.heap.push { cls := .type "list", data := .seq vs.toArray n }, toks := tk } → wpAny M0 A t Q E w.s) : Ea A b w t (newL w.H xs) :=
 Ea.lst r k (Nat.le_refl _) (fun _ _ e => Heap.get?_push_of_some _ e) (Heap.get?_push_size _ rfl)
theorem Ea.tup {n tk : Nat} (r : VRs w xs vs) (k : ∀ Q E, Q (.ref w.s.heap.objs.size) { w.s with heap := w.s.heap.push { cls := .type "tuple", data := .seq vs.toArray n }, toks := tk } → wpAny M0 A t Q E w.s) : Ea A b w t (some (.tup xs, w.H)) :=
 Ea.new (fun _ _ e => Heap.get?_push_of_some _ e) (fun m => ⟨_, _, _, rfl, Heap.get?_push_size _ rfl, w.S.notHid (Nat.le_refl _), r.map m⟩) k
end
theorem VR.int {i : Int} {t : Tok} : VR w (.int i) (.int i t) := ⟨_, rfl⟩
theorem VR.str {i : List Nat} {t : Tok} : VR w (.str i) (.str (toS i) t) := ⟨_, rfl⟩
theorem VR.bool {c : Bool} : VR w (.bool c) (.bool c) := rfl
theorem VR.flt {i : Fl} {x : UInt64} (e : i.u = x) : VR w (.flt i) (.float x w.s.toks) := ⟨_, e ▸ rfl, Nat.ne_of_gt w.t⟩
theorem VRs.length : ∀ {xs : List AV} {vs : List Value}, VRs w xs vs → xs.length = vs.length
 | [], _, r => by cases r; rfl
 | _ :: _, _, r => by obtain ⟨v, ws, rfl, _, c⟩ := r; exact congrArg (· + 1) (VRs.length c)
theorem VRs.append : ∀ {xs ys : List AV} {vs ws : List Value}, VRs w xs vs → VRs w ys ws → VRs w (xs ++ ys) (vs ++ ws)
 | [], _, _, _, r, q => by cases r; exact q
 | _ :: _, _, _, _, r, q => by obtain ⟨v, ws, rfl, a, c⟩ := r; exact ⟨v, _, rfl, a, VRs.append c q⟩
theorem VRs.nth : ∀ {xs : List AV} {vs : List Value}, VRs w xs vs → ∀ {i : Nat} {x : AV}, Mine.nth xs i = some x → ∃ v, vs[i]? = some v ∧ VR w x v
 | [], _, _, _, _, e => nomatch e
 | _ :: _, _, r, 0, _, e => by cases e; obtain ⟨v, ws, rfl, a, c⟩ := r; exact ⟨_, rfl, a⟩
 | _ :: _, _, r, _ + 1, _, e => by obtain ⟨v, ws, rfl, a, c⟩ := r; exact VRs.nth c e
theorem VRs.some {xs : List AV} {vs : List Value} (r : VRs w xs vs) {i : Nat} (h : i < vs.length) : ∃ x, xs[i]? = some x ∧ VR w x vs[i] := by
 have l := r.length ▸ h
 obtain ⟨v, e, a⟩ := r.nth ((nth_getElem xs i).trans (List.getElem?_eq_getElem l))
 rw [List.getElem?_eq_getElem h] at e
 exact ⟨_, List.getElem?_eq_getElem l, Option.some.inj e ▸ a⟩
end
section
theorem smallL_lt {α : Type} {xs : List α} (h : smallL xs = true) : xs.length < 1000000 := by
 unfold smallL at h
 exact Nat.le_of_ble_eq_true h
theorem sizeLine_is : sizeLine = 16777216 := by unfold sizeLine; rfl
theorem eqI_iff {a c : Int} : eqI a c = true ↔ a = c := Z.eqB_iff a c
theorem ltI_iff {a c : Int} : ltI a c = true ↔ a < c := Z.ltB_iff a c
theorem leI_iff {a c : Int} : leI a c = true ↔ a ≤ c := Z.leB_iff a c
theorem eqI_eq (a c : Int) : eqI a c = (a == c) := by
 rw [Bool.eq_iff_iff, eqI_iff, beq_iff_eq]
theorem ltI_eq (a c : Int) : ltI a c = decide (a < c) := by
 rw [Bool.eq_iff_iff, ltI_iff, decide_eq_true_eq]
theorem leI_eq (a c : Int) : leI a c = decide (a ≤ c) := by
 rw [Bool.eq_iff_iff, leI_iff, decide_eq_true_eq]
theorem smallI_lt {a : Int} (h : smallI a = true) : a.natAbs < 4611686018427387904 := by
 unfold smallI at h
 exact Nat.le_of_ble_eq_true h
theorem toS_length (l : List Nat) : (toS l).length = l.length := by
 unfold toS Str.length; simp
end
end Mine
end
section
open PySem PySem.W PyProof.Rows
open PySem.SeqAt PySem.Builtin
namespace Mine
section
variable {A : Around} {b : Nat} {L : Option Addr} {w w' w2 : Ws} {K : Kn} {lo lo' : Lo} {x u y : AV} {xs : List AV} {v v2 va vb : Value} {vs : List Value} {n : Nat} {α : Type}
theorem and_split {a b : Bool} (h : (a && b) = true) : a = true ∧ b = true := Bool.and_eq_true_iff.mp h
theorem toS_append (x y : List Nat) : toS x ++ toS y = toS (x ++ y) := by
 unfold toS
 show (Str.mk _ : Str) = _
 simp
theorem pylong_small {x y : Int} (h : y.natAbs < 4611686018427387904) : Builtin.divisionGoesByPylong x y = false := by
 unfold Builtin.divisionGoesByPylong
 have hl : y.natAbs.log2 < 62 := by
  by_cases h0 : y.natAbs = 0
  ·rw [h0]; decide
  ·rw [Nat.log2_lt h0]; exact h
 rw [Bool.and_eq_false_iff]
 left
 apply decide_eq_false
 show ¬ ((if (y == 0) = true then 0 else y.natAbs.log2 / 30 + 1) > 300)
 split <;> (first | lia | omega)
theorem foldl_rep (x : List Nat) : ∀ (k : Nat) (acc : Array Nat), (List.replicate k x.toArray).foldl (· ++ ·) acc = acc ++ (rep x k).toArray
 | 0, acc => by simp [rep]
 | k + 1, acc => by
  rw [List.replicate_succ, List.foldl_cons, foldl_rep x k]
  show acc ++ x.toArray ++ (rep x k).toArray = acc ++ (x ++ rep x k).toArray
  rw [Array.append_assoc]
  congr 1
  simp
theorem foldl_repV (x : List Value) : ∀ (k : Nat) (acc : Array Value), (List.replicate k x.toArray).foldl (· ++ ·) acc = acc ++ (rep x k).toArray
 | 0, acc => by simp [rep]
 | k + 1, acc => by
  rw [List.replicate_succ, List.foldl_cons, foldl_repV x k]
  show acc ++ x.toArray ++ (rep x k).toArray = acc ++ (x ++ rep x k).toArray
  rw [Array.append_assoc]
  congr 1
  simp
theorem rep_nil {α : Type} : ∀ k : Nat, rep ([] : List α) k = []
 | 0 => rfl
 | k + 1 => by show [] ++ rep [] k = _; rw [rep_nil k]; rfl
theorem mul_toS (x : List Nat) {y : Int} (h0 : 0 ≤ y) : Txt.mul (toS x) y = toS (rep x y.toNat) := by
 unfold Txt.mul
 by_cases h1 : y < 1
 ·rw [if_pos h1]
  have : y = 0 := by (first | lia | omega)
  subst this; rfl
 ·rw [if_neg h1]
  split
  ·rename_i hc
   rw [Bool.or_eq_true] at hc
   rcases hc with hc | hc
   ·have : y = 1 := by simpa using hc
    subst this
    show toS x = toS (x ++ [])
    rw [List.append_nil]
   ·have : x = [] := by
     have := beq_iff_eq.mp hc
     rw [toS_length] at this
     exact List.eq_nil_of_length_eq_zero this
    subst this
    rw [rep_nil]
  ·unfold toS
   rw [foldl_rep]
   simp
theorem VRs.rep (r : VRs w xs vs) : ∀ k : Nat, VRs w (rep xs k) (rep vs k)
 | 0 => rfl
 | k + 1 => r.append (VRs.rep r k)
theorem L6 {l m : List α} (h : (smallL l && smallL m) = true) : l.length + m.length ≤ sizeLine := by
 obtain ⟨h1, h2⟩ := and_split h
 have := smallL_lt h1
 have := smallL_lt h2
 rw [sizeLine_is]; (first | lia | omega)
theorem cap {α β : Type} {l m : List α} {l' m' : List β} (e1 : l.length = l'.length) (e2 : m.length = m'.length) (h : (smallL l && smallL m) = true) : (l'.toArray ++ m'.toArray).size ≤ sizeLine := by
 rw [Array.size_append, List.size_toArray, List.size_toArray, ← e1, ← e2]; exact L6 h
theorem smallI_62 {a : Int} (h : smallI a = true) : Builtin.Int.intBits a ≤ 64 := by have := smallI_lt h; exact intBits_le_64 (by (first | lia | omega)) (by (first | lia | omega))
theorem notT {c : Bool} (h : (!c) = true) : ¬ c = true := by cases c with | false => exact Bool.false_ne_true | true => cases h
theorem eqI_ne {y : Int} (h : (!eqI y 0) = true) : y ≠ 0 := fun e => by subst e; exact absurd h (by decide)
theorem cap2 {α β : Type} {l m : List α} {l' m' : List β} (e1 : l.length = l'.length) (e2 : m.length = m'.length) (h : (smallL l && smallL m) = true) : l'.toArray.size + m'.toArray.size ≤ sizeLine := by
 rw [List.size_toArray, List.size_toArray, ← e1, ← e2]; exact L6 h
theorem binAdd (ru : VR w u va) (rw_ : VR w x vb) : Ea A b w (binaryOp .Add va vb) (binM .Add u x w.H) := by
 refine Ev.alt ?_ (Ev.alt ?_ (Ev.alt ?_ (Ev.alt ?_ ?_)))
 ·refine ru.asI (binaryOp .Add · vb) fun i t => ?_
  refine rw_.asI (binaryOp .Add _) fun j t2 => ?_
  exact Ea.imm VR.int fun Q E q => add_int q
 ·refine ru.asF (binaryOp .Add · vb) fun i t _ => ?_
  refine rw_.asF (binaryOp .Add _) fun j t2 _ => ?_
  exact Ea.imm (VR.flt (Fl.add_u _ _)) fun Q E q => add_float q
 ·refine ru.asS (binaryOp .Add · vb) fun i t => ?_
  refine rw_.asS (binaryOp .Add _) fun j t2 => ?_
  refine Ev.gd fun h => Ea.of fun Q E q => add_str (fun t' tk => ?_) (by rw [toS_length, toS_length]; exact L6 h)
  rw [toS_append]; exact q _ tk _ _ (Post.refl w.S) VR.str
 ·refine ru.asT (binaryOp .Add · vb) fun i a vs n e r z => ?_
  refine rw_.asT (binaryOp .Add _) fun j c ws m f r2 z2 => ?_
  refine Ev.gd fun h => ?_
  by_cases hx : vs = []
  ·subst hx
   cases List.eq_nil_of_length_eq_zero r.length
   exact Ea.now ⟨_, _, _, rfl, f, z2, r2⟩ fun Q E q => concat_meets ⟨_, e, rfl⟩ ⟨_, f, rfl⟩ noFill_tuple_add seq_tuple_add F.slot_tuple_add F.entry_tuple_add (F.args_tuple_add_2 _ _) (AutoSeq1.tuple___add___tuple_tuple_0 a _ n c _ m rfl) ⟨e, f, q⟩
  by_cases hy : ws = []
  ·subst hy
   cases List.eq_nil_of_length_eq_zero r2.length
   rw [List.append_nil]
   exact Ea.now ⟨_, _, _, rfl, e, z, r⟩ fun Q E q => concat_meets ⟨_, e, rfl⟩ ⟨_, f, rfl⟩ noFill_tuple_add seq_tuple_add F.slot_tuple_add F.entry_tuple_add (F.args_tuple_add_2 _ _) (AutoSeq1.tuple___add___tuple_tuple_1 a _ n c _ m (by simpa using hx) rfl) ⟨e, f, q⟩
  ·refine Ea.tup (n := 0) (tk := w.s.toks) (r.append r2) fun Q E q => P.add_tuple e f (by simpa using hx) (by simpa using hy) ?_ (cap2 r.length r2.length h)
   rw [List.append_toArray]; exact q
 ·refine ru.asL (binaryOp .Add · vb) fun i a xs vs n ha e r => ?_
  refine rw_.asL (binaryOp .Add _) fun j c ys ws m hc f r2 => ?_
  refine Ev.gd fun h => Ea.push (n := 0) (tk := w.s.toks) (r.append r2) fun Q E q => P.add_list e f ?_ (cap2 r.length r2.length h)
  rw [List.append_toArray]; exact q
theorem binSub (ru : VR w u va) (rw_ : VR w x vb) : Ea A b w (binaryOp .Sub va vb) (binM .Sub u x w.H) := by
 refine Ev.alt ?_ ?_
 ·refine ru.asI (binaryOp .Sub · vb) fun i t => ?_
  refine rw_.asI (binaryOp .Sub _) fun j t2 => ?_
  exact Ea.imm VR.int fun Q E q => sub_int q
 ·refine ru.asF (binaryOp .Sub · vb) fun i t _ => ?_
  refine Ev.alt ?_ ?_
  ·refine rw_.asF (binaryOp .Sub _) fun j t2 _ => ?_
   exact Ea.imm (VR.flt (Fl.sub_u _ _)) fun Q E q => sub_float q
  ·refine rw_.asI (binaryOp .Sub _) fun j t2 => ?_
   exact Ev.gd fun h => Ea.imm (VR.flt (by rw [Fl.sub_u, Fl.ofI_u])) fun Q E q => AutoFloatOps.sub_fi_1 (by rw [fitsI h]; decide) q
theorem mulCap {k : Nat} {y : Int} (h : (leI 0 y && (leI y 1000 && Nat.ble (k * y.toNat) 1000000)) = true) : 0 ≤ y ∧ y ≤ 1000 ∧ k * y.toNat ≤ 1000000 := by
 obtain ⟨h2, h3⟩ := and_split h
 obtain ⟨h3, h4⟩ := and_split h3
 exact ⟨leI_iff.mp h2, leI_iff.mp h3, Nat.le_of_ble_eq_true h4⟩
theorem binMul (ru : VR w u va) (rw_ : VR w x vb) : Ea A b w (binaryOp .Mult va vb) (binM .Mult u x w.H) := by
 refine Ev.alt ?_ (Ev.alt ?_ (Ev.alt ?_ ?_))
 ·refine ru.asI (binaryOp .Mult · vb) fun i t => ?_
  refine rw_.asI (binaryOp .Mult _) fun j t2 => ?_
  exact Ev.gd fun h => Ea.imm VR.int fun Q E q => mul_int q (IntMulOk.of_left (smallI_62 (and_split h).1))
 ·refine ru.asF (binaryOp .Mult · vb) fun i t _ => ?_
  refine rw_.asF (binaryOp .Mult _) fun j t2 _ => ?_
  exact Ea.imm (VR.flt (Fl.mul_u _ _)) fun Q E q => mul_float q
 ·refine ru.asS (binaryOp .Mult · vb) fun x t => ?_
  refine rw_.asI (binaryOp .Mult _) fun y t2 => ?_
  refine Ev.gd fun h => Ea.of fun Q E k => ?_
  obtain ⟨h1, h⟩ := and_split h
  obtain ⟨h2, h3, l4⟩ := mulCap h
  have l1 := smallL_lt h1
  refine SB.mul ⟨?_, fun h0 _ => ?_, fun _ _ => ?_⟩ fun t' tk => ?_
  ·rw [Bool.or_eq_false_iff]
   exact ⟨decide_eq_false (by (first | lia | omega)), decide_eq_false (by (first | lia | omega))⟩
  ·rw [toS_length]
   have hy : (y.toNat : Int) = y := Int.toNat_of_nonneg h2
   have hm : ((x.length : Int)) * y ≤ 1000000 := by
    rw [← hy, ← Int.natCast_mul]; (first | lia | omega)
   have := Int.le_ediv_of_mul_le (a := (x.length : Int)) (b := 2 ^ 63 - 1) (c := y) (by (first | lia | omega)) (by (first | lia | omega))
   (first | lia | omega)
  ·rw [toS_length]
   unfold Builtin.Str.tooLong
   exact decide_eq_false (by rw [sizeLine_is]; (first | lia | omega))
  ·rw [mul_toS x h2]
   exact k w.s.heap tk _ _ (Post.refl w.S) VR.str
 ·refine ru.asL (binaryOp .Mult · vb) fun i a xs vs n ha e r => ?_
  refine rw_.asI (binaryOp .Mult _) fun y t2 => ?_
  refine Ev.gd fun h => Ea.push (n := 0) (tk := w.s.toks) (r.rep y.toNat) fun Q E q => ?_
  obtain ⟨h1, h⟩ := and_split h
  obtain ⟨h2, h3, l4⟩ := mulCap h
  have l1 := smallL_lt h1
  rw [r.length] at l1 l4
  have key : (List.foldl (fun x1 x2 => x1 ++ x2) #[] (List.replicate (if vs.toArray.isEmpty = true then 0 else y.toNat) vs.toArray)) = (rep vs y.toNat).toArray := by
   rw [foldl_repV]
   split
   ·rename_i he
    have : vs = [] := by simpa using he
    subst this
    rw [rep_nil, rep_nil]; simp
   ·simp
  refine wpAny_binaryOp_repeat_ref (T := "list") (U := "int") (by decide) ⟨_, e, rfl⟩ (fun s' => typeIs_int s' y t2) noFill_list_mul F.fills_int_mul F.slot_int_rmul repeat_list F.slot_int_index.lookup
   (call_meets F.slot_int_rmul (typeIs_int w.s y t2) F.entry_int_rmul (F.args_int_rmul_2 _ _) (int___rmul___int_list y t2 a vs.toArray n)
   ⟨e, rfl, ⟨_, e, rfl⟩, call_meets F.slot_list_mul ⟨_, e, rfl⟩ F.entry_list_mul (F.args_list_mul_2 _ _)
    (AutoListH.list___mul___list_int_3 a vs.toArray n y t2 (by simp [Builtin.List.listFitsIndex]; (first | lia | omega)) (by rw [List.size_toArray]; (first | lia | omega)) (by rw [List.size_toArray]; simp [Builtin.List.listTooLong, sizeLine]; (first | lia | omega)))
    ⟨e, ?_⟩⟩)
  rw [key]
  exact q
theorem binDiv (R : Rm A n) (ru : VR w u va) (rw_ : VR w x vb) : Ea A b w (binaryOp .Div va vb) (binM .Div u x w.H) := by
 refine Ev.alt ?_ ?_
 ·refine ru.asI (binaryOp .Div · vb) fun x t => ?_
  refine rw_.asI (binaryOp .Div _) fun y t2 => ?_
  refine Ev.gd fun h => Ea.imm (tk := w.s.toks + 1) (VR.flt (Fl.frac_u _ _ _)) fun Q E q => ?_
  obtain ⟨h1, h2⟩ := and_split h
  rw [ltI_eq, ltI_eq] at q
  refine Flt.div_ii R.hd (fun e => absurd e (eqI_ne h1)) (fun _ e => absurd e ?_) fun _ _ => q
  exact Flt.quot_fits (Int.natAbs_pos.mpr (eqI_ne h1)) (Nat.lt_trans (smallI_lt h2) (Nat.lt_of_le_of_lt (Nat.le_of_eq (by decide : 4611686018427387904 = 2 ^ 62)) (Nat.pow_lt_pow_right (by decide) (by decide))))
 ·refine ru.asF (binaryOp .Div · vb) fun i t _ => ?_
  refine rw_.asF (binaryOp .Div _) fun j t2 _ => ?_
  exact Ev.gd fun h => Ea.imm (VR.flt (Fl.div_u _ _)) fun Q E q => AutoFloatOps.truediv_1 (by rw [← Fl.zero_u]; exact notT h) q
theorem binRest {op : Operator} (R : Rm A n) (ru : VR w u va) (rw_ : VR w x vb) : Ea A b w (binaryOp op va vb) (binM op u x w.H) := by
 cases op
 case Add => exact binAdd ru rw_
 case Sub => exact binSub ru rw_
 case Mult => exact binMul ru rw_
 case Div => exact binDiv R ru rw_
 case FloorDiv =>
  refine ru.asI (binaryOp .FloorDiv · vb) fun i t => ?_
  refine rw_.asI (binaryOp .FloorDiv _) fun j t2 => ?_
  exact Ev.gd fun h => Ea.imm VR.int fun Q E q => floordiv_int (eqI_ne (and_split (and_split h).2).2) q (.inl (pylong_small (smallI_lt (and_split (and_split h).2).1)))
 case Mod =>
  refine Ev.alt ?_ ?_
  ·refine ru.asI (binaryOp .Mod · vb) fun i t => ?_
   refine rw_.asI (binaryOp .Mod _) fun j t2 => ?_
   exact Ev.gd fun h => Ea.imm VR.int fun Q E q => mod_int' (eqI_ne h) q
  ·refine ru.asF (binaryOp .Mod · vb) fun i t _ => ?_
   refine rw_.asF (binaryOp .Mod _) fun j t2 _ => ?_
   exact Ev.gd fun h => Ea.imm (VR.flt (Fl.mod_u _ _)) fun Q E q => AutoFloatOps.mod_1 (by rw [← Fl.zero_u]; exact notT h) q
 case LShift =>
  refine ru.asI (binaryOp .LShift · vb) fun i t => ?_
  refine rw_.asI (binaryOp .LShift _) fun j t2 => ?_
  refine Ev.gd fun h => ?_
  obtain ⟨h1, h2⟩ := and_split h
  obtain ⟨h2, h3⟩ := and_split h2
  rw [leI_iff] at h2 h3
  have l1 := smallI_lt h1
  exact Ea.imm VR.int fun Q E q => lshift_int_small h2 (by (first | lia | omega)) (by (first | lia | omega)) q
 case RShift =>
  refine ru.asI (binaryOp .RShift · vb) fun i t => ?_
  refine rw_.asI (binaryOp .RShift _) fun j t2 => ?_
  exact Ev.gd fun h => Ea.imm VR.int fun Q E q => rshift_int (leI_iff.mp (and_split h).1) q
 case BitXor =>
  refine ru.asI (binaryOp .BitXor · vb) fun i t => ?_
  refine rw_.asI (binaryOp .BitXor _) fun j t2 => ?_
  exact Ea.imm VR.int fun Q E q => xor_int q
 all_goals exact Ev.none
end
end Mine
end
section
open PySem PySem.W PyProof.Rows
open PySem.Builtin.Str (occurrences subAt strSub partsBetween)
namespace Mine
theorem eqL_iff : ∀ {a b : List Nat}, eqL a b = true ↔ a = b
 | [], [] => by simp [eqL]
 | [], _ :: _ => by simp [eqL]
 | _ :: _, [] => by simp [eqL]
 | a :: r, b :: t => by
  unfold eqL
  cases q : Nat.beq a b with
  | true =>
   have := Nat.eq_of_beq_eq_true q
   subst this
   show eqL r t = true ↔ _
   rw [eqL_iff]; simp
  | false =>
   have := Nat.ne_of_beq_eq_false q
   simp [this]
theorem pre_iff : ∀ {w s : List Nat}, pre w s = true ↔ s.take w.length = w
 | [], s => by simp [pre]
 | _ :: _, [] => by simp [pre]
 | a :: r, b :: t => by
  unfold pre
  cases q : Nat.beq a b with
  | true =>
   have := Nat.eq_of_beq_eq_true q
   subst this
   show pre r t = true ↔ _
   rw [pre_iff]; simp
  | false =>
   have := Nat.ne_of_beq_eq_false q
   constructor
   ·intro h; cases h
   ·intro h; simp at h; exact absurd h.1.symm this
theorem pre_length {w s : List Nat} (h : pre w s = true) : w.length ≤ s.length := by
 have := congrArg List.length (pre_iff.mp h)
 rw [List.length_take] at this
 (first | lia | omega)
theorem toS_list (l : List Nat) : (toS l).cps.toList = l := by unfold toS; simp
theorem toS_inj {a b : List Nat} (h : toS a = toS b) : a = b := by
 have := congrArg (fun x : Str => x.cps.toList) h
 simpa [toS] using this
theorem toS_beq (a b : List Nat) : (toS a == toS b) = eqL a b := by
 rw [Bool.eq_iff_iff, eqL_iff, beq_iff_eq]
 exact ⟨toS_inj, fun h => by rw [h]⟩
theorem subAt_toS (x y : List Nat) (i : Nat) : subAt (toS x) (toS y) i = pre y (x.drop i) := by
 rw [StrLaws.subAt_eq, toS_list, toS_list, toS_length]
 rw [Bool.eq_iff_iff, pre_iff, beq_iff_eq]
theorem strSub_toS (x : List Nat) (i j : Nat) : strSub (toS x) i j = toS ((x.drop i).take (j - i)) := by
 have h := StrLaws.strSub_toList (toS x) i j
 rw [toS_list] at h
 rw [← h]
 unfold toS
 simp
theorem isIn_iff {w : List Nat} (hw : w ≠ []) : ∀ {s : List Nat}, isIn w s = true ↔ ∃ i, i + w.length ≤ s.length ∧ pre w (s.drop i) = true
 | [] => by
  constructor
  ·intro h
   have : w = [] := by simpa [isIn] using h
   exact absurd this hw
  ·rintro ⟨i, h, _⟩
   have : w = [] := List.eq_nil_of_length_eq_zero (by rw [List.length_nil] at h; (first | lia | omega))
   exact absurd this hw
 | b :: t => by
  unfold isIn
  cases q : pre w (b :: t) with
  | true => exact ⟨fun _ => ⟨0, by have := pre_length q; (first | lia | omega), q⟩, fun _ => rfl⟩
  | false =>
   show isIn w t = true ↔ _
   rw [isIn_iff hw]
   constructor
   ·rintro ⟨i, h1, h2⟩
    exact ⟨i + 1, by simp; (first | lia | omega), h2⟩
   ·rintro ⟨i, h1, h2⟩
    cases i with
    | zero => rw [List.drop_zero, q] at h2; cases h2
    | succ i => exact ⟨i, by simp at h1; (first | lia | omega), h2⟩
theorem notIn_toS {w s : List Nat} (hw : w ≠ []) : (!(!(occurrences (toS s) (toS w) 0 (toS s).length 1).isEmpty)) = !isIn w s := by
 congr 1
 rw [Bool.eq_iff_iff, StrLaws.found_iff, isIn_iff hw]
 simp only [toS_length, subAt_toS]
theorem findF_spec (w : List Nat) : ∀ (s : List Nat) (k : Nat), (∀ i, findF w s k = some i → k ≤ i ∧ i - k ≤ s.length ∧ pre w (s.drop (i - k)) = true ∧ ∀ j, k ≤ j → j < i → pre w (s.drop (j - k)) = false) ∧
  (findF w s k = none → ∀ j, j ≤ s.length → pre w (s.drop j) = false)
 | [], k => by
  unfold findF
  cases w with
  | nil =>
   constructor
   ·rintro i h
    obtain rfl := sI1 h
    exact ⟨Nat.le_refl _, by (first | lia | omega), rfl, fun j _ _ => by (first | lia | omega)⟩
   ·intro h; cases h
  | cons a r =>
   constructor
   ·rintro i h; cases h
   ·intro _ j _; simp [pre]
 | b :: t, k => by
  unfold findF
  cases q : pre w (b :: t) with
  | true =>
   constructor
   ·rintro i h
    obtain rfl := sI1 h
    refine ⟨Nat.le_refl _, by (first | lia | omega), ?_, fun j _ _ => by (first | lia | omega)⟩
    rw [Nat.sub_self]; exact q
   ·intro h; cases h
  | false =>
   obtain ⟨h1, h2⟩ := findF_spec w t (k + 1)
   constructor
   ·intro i h
    obtain ⟨a1, a2, a3, a4⟩ := h1 i h
    have e : i - k = (i - (k + 1)) + 1 := by (first | lia | omega)
    refine ⟨by (first | lia | omega), by simp; (first | lia | omega), by rw [e]; exact a3, fun j b1 b2 => ?_⟩
    by_cases hj : j = k
    ·subst hj; rw [Nat.sub_self]; exact q
    ·have e : j - k = (j - (k + 1)) + 1 := by (first | lia | omega)
     rw [e]; exact a4 j (by (first | lia | omega)) b2
   ·intro h j hj
    cases j with
    | zero => exact q
    | succ j => exact h2 h j (by simp at hj; (first | lia | omega))
theorem at_toS (x y : List Nat) (hi i : Nat) : StrLaws.At (toS x) (toS y) hi i ↔ i + y.length ≤ hi ∧ pre y (x.drop i) = true := by
 unfold StrLaws.At
 rw [toS_length, subAt_toS]
theorem occ_head_to (x y : Str) (lo hi : Nat) :
  (occurrences x y lo hi 1 = [] ∧ ∀ i, lo ≤ i → i ≤ hi → ¬ StrLaws.At x y hi i) ∨
  ∃ i r, occurrences x y lo hi 1 = i :: r ∧ lo ≤ i ∧ StrLaws.At x y hi i ∧ ∀ k, lo ≤ k → k < i → ¬ StrLaws.At x y hi k := by
 rw [StrLaws.occ_eq]
 rcases StrLaws.occ_first x y hi 1 (Nat.le_refl _) (List.range' lo (hi + 1 - lo)) lo (fun i hi => by have := List.mem_range'_1.mp hi; (first | lia | omega)) with ⟨h0, hn⟩ | ⟨pr, a, post, e, h0, ha, hn⟩
 ·refine .inl ⟨by rw [h0], fun i h1 h2 hi => ?_⟩
  exact hn i (by rw [List.mem_range'_1]; (first | lia | omega)) hi
 ·have hs := StrLaws.range'_split_from e
  refine .inr ⟨a, ((forIn (List.range' lo (hi + 1 - lo)) ((#[] : Array Nat), lo) (StrLaws.occBody x y hi 1)).run.fst.toList).tail, ?_, hs.1, ha, fun k hk0 hk => hn k (hs.2 k hk0 hk)⟩
  generalize (forIn (List.range' lo (hi + 1 - lo)) ((#[] : Array Nat), lo) (StrLaws.occBody x y hi 1)).run.fst = arr at h0
  have h1 : arr.toList[0]? = some a := by simpa using h0
  cases hL : arr.toList with
  | nil => rw [hL] at h1; cases h1
  | cons b t => rw [hL] at h1; simp at h1; rw [h1]; rfl
theorem pre_append_take {w s : List Nat} {b : Nat} (h : w.length ≤ b) : pre w (s.take b) = pre w s := by
 rw [Bool.eq_iff_iff, pre_iff, pre_iff, List.take_take, Nat.min_eq_left h]
theorem pre_take_iff {w s : List Nat} {b : Nat} : pre w (s.take b) = true ↔ w.length ≤ b ∧ pre w s = true := by
 constructor
 ·intro h
  have hl := pre_length h
  rw [List.length_take] at hl
  exact ⟨by (first | lia | omega), by rwa [pre_append_take (by (first | lia | omega))] at h⟩
 ·rintro ⟨h1, h2⟩
  rwa [pre_append_take h1]
theorem findL_spec (s w : List Nat) {a b : Nat} (hab : a ≤ b) (hb : b ≤ s.length) :
  (∀ i, findL s w a b = some i → a ≤ i ∧ i + w.length ≤ b ∧ pre w (s.drop i) = true ∧ ∀ j, a ≤ j → j < i → ¬ (j + w.length ≤ b ∧ pre w (s.drop j) = true)) ∧
  (findL s w a b = none → ∀ j, a ≤ j → ¬ (j + w.length ≤ b ∧ pre w (s.drop j) = true)) := by
 unfold findL
 have hd : ∀ j, a ≤ j → ((s.take b).drop a).drop (j - a) = (s.drop j).take (b - j) := fun j h => by
  rw [List.drop_drop, List.drop_take]
  have : a + (j - a) = j := by (first | lia | omega)
  rw [this]
 have hl : ((s.take b).drop a).length = b - a := by rw [List.length_drop, List.length_take]; (first | lia | omega)
 obtain ⟨h1, h2⟩ := findF_spec w ((s.take b).drop a) a
 rw [hl] at h1 h2
 constructor
 ·intro i h
  obtain ⟨a1, a2, a3, a4⟩ := h1 i h
  rw [hd i a1, pre_take_iff] at a3
  refine ⟨a1, by (first | lia | omega), a3.2, fun j b1 b2 b3 => ?_⟩
  have q := a4 j b1 b2
  rw [hd j b1] at q
  have : pre w ((s.drop j).take (b - j)) = true := pre_take_iff.mpr ⟨by (first | lia | omega), b3.2⟩
  rw [this] at q; cases q
 ·intro h j b1 b3
  have q := h2 h (j - a) (by (first | lia | omega))
  rw [hd j b1] at q
  have : pre w ((s.drop j).take (b - j)) = true := pre_take_iff.mpr ⟨by (first | lia | omega), b3.2⟩
  rw [this] at q; cases q
theorem find_toS (s w : List Nat) {a b : Nat} (hab : a ≤ b) (hb : b ≤ s.length) :
  (∀ i, findL s w a b = some i → ∃ r, occurrences (toS s) (toS w) a b 1 = i :: r) ∧ (findL s w a b = none → occurrences (toS s) (toS w) a b 1 = []) := by
 obtain ⟨h1, h2⟩ := findL_spec s w hab hb
 have key := occ_head_to (toS s) (toS w) a b
 simp only [at_toS] at key
 constructor
 ·intro i h
  obtain ⟨a1, a2, a3, a4⟩ := h1 i h
  rcases key with ⟨_, hn⟩ | ⟨k, r, e, k1, k2, k3⟩
  ·exact absurd ⟨a2, a3⟩ (hn i a1 (by (first | lia | omega)))
  ·have : k = i := by
    rcases Nat.lt_trichotomy k i with q | q | q
    ·exact absurd k2 (a4 k k1 q)
    ·exact q
    ·exact absurd ⟨a2, a3⟩ (k3 i a1 q)
   subst this
   exact ⟨r, e⟩
 ·intro h
  rcases key with ⟨e, _⟩ | ⟨k, r, e, k1, k2, k3⟩
  ·exact e
  ·exact absurd k2 (h2 h k k1)
open PySem.Builtin in
open PySem.Builtin.Str in
theorem gives_find_ft (x y : Str) (i j : Int) (t u v z : Tok) (hj : (fromIndex x.length j) ≤ x.length) :
  Gives («str.find» ⟨[.str x t, .str y u, .int i v, .int j z], []⟩) (.int (match occurrences x y (fromIndex x.length i) (fromIndex x.length j) 1 with | k :: _ => (k : Int) | [] => -1)) := by
 show Gives (match occurrences x y (fromIndex x.length i) (min (fromIndex x.length j) x.length) 1 with | k :: _ => retInt k | [] => (do rule "str.find.not-found"; retInt (-1))) _
 rw [Nat.min_eq_left hj]
 cases occurrences x y (fromIndex x.length i) (fromIndex x.length j) 1 with
 | nil => exact .rule (.of_eq rfl)
 | cons k _ => exact .of_eq rfl
noncomputable def cuts (s w : List Nat) (free : Nat) : Nat → Nat → List Nat
 | 0, _ => []
 | k + 1, i => if free ≤ i ∧ pre w (s.drop i) = true then i :: cuts s w (i + w.length) k (i + 1) else cuts s w free k (i + 1)
theorem occBody_toS (s w : List Nat) (limit i : Nat) (st : Array Nat × Nat) : StrLaws.occBody (toS s) (toS w) s.length limit i st =
  (if ((st.fst.size < limit ∧ st.snd ≤ i) ∧ i + w.length ≤ s.length) ∧ pre w (s.drop i) = true then pure (ForInStep.yield (st.fst.push i, i + w.length)) else pure (ForInStep.yield (st.fst, st.snd)) : Id (ForInStep (Array Nat × Nat))) := by
 unfold StrLaws.occBody
 simp only [toS_length, subAt_toS]
theorem occ_cuts (s w : List Nat) (limit : Nat) : ∀ (k i free : Nat) (acc : Array Nat), i + k = s.length + 1 → acc.size + k ≤ limit →
  (forIn (List.range' i k) (acc, free) (StrLaws.occBody (toS s) (toS w) s.length limit)).run.fst.toList = acc.toList ++ cuts s w free k i
 | 0, i, free, acc, _, _ => by simp [cuts]
 | k + 1, i, free, acc, h, hl => by
  rw [List.range'_succ, List.forIn_cons, occBody_toS]
  unfold cuts
  have hp : pre w (s.drop i) = true → i + w.length ≤ s.length ∨ w.length = 0 := fun q => by
   have := pre_length q
   rw [List.length_drop] at this
   (first | lia | omega)
  by_cases hc : free ≤ i ∧ pre w (s.drop i) = true
  ·have hb : i + w.length ≤ s.length ∨ w.length = 0 := hp hc.2
   have hi : i + w.length ≤ s.length := by
    rcases hb with q | q
    ·exact q
    ·by_cases hi : i ≤ s.length
     ·(first | lia | omega)
     ·(first | lia | omega)
   rw [if_pos ⟨⟨⟨(by show acc.size < limit; (first | lia | omega)), hc.1⟩, hi⟩, hc.2⟩, if_pos hc]
   have := occ_cuts s w limit k (i + 1) (i + w.length) (acc.push i) (by (first | lia | omega)) (by rw [Array.size_push]; (first | lia | omega))
   rw [Array.toList_push, List.append_assoc] at this
   exact this
  ·rw [if_neg (fun q => hc ⟨q.1.1.2, q.2⟩), if_neg hc]
   exact occ_cuts s w limit k (i + 1) free acc (by (first | lia | omega)) (by (first | lia | omega))
theorem cuts_skip (s w : List Nat) (free : Nat) : ∀ (d k i : Nat), i + d = free → cuts s w free (k + d) i = cuts s w free k free
 | 0, k, i, h => by rw [← h]; rfl
 | d + 1, k, i, h => by
  show (if free ≤ i ∧ pre w (s.drop i) = true then i :: cuts s w (i + w.length) (k + d) (i + 1) else cuts s w free (k + d) (i + 1)) = _
  rw [if_neg (fun q => by (first | lia | omega))]
  exact cuts_skip s w free d k (i + 1) (by (first | lia | omega))
noncomputable def pieces (s : List Nat) (w : Nat) : Nat → List Nat → List (List Nat)
 | a, [] => [s.drop a]
 | a, c :: r => (s.drop a).take (c - a) :: pieces s w (c + w) r
theorem partsFrom_pieces (s : List Nat) (w : Nat) : ∀ (cs : List Nat) (a : Nat), a ≤ s.length → StrLaws.partsFrom (toS s) w a cs = (pieces s w a cs).map toS
 | [], a, h => by
  show [strSub (toS s) a (toS s).length] = _
  rw [strSub_toS, toS_length]
  show _ = [toS (s.drop a)]
  rw [List.take_of_length_le (by rw [List.length_drop]; exact Nat.le_refl _)]
 | c :: r, a, h => by
  show strSub (toS s) a c :: StrLaws.partsFrom (toS s) w (c + w) r = toS ((s.drop a).take (c - a)) :: (pieces s w (c + w) r).map toS
  rw [strSub_toS]
  by_cases hc : c + w ≤ s.length
  ·rw [partsFrom_pieces s w r (c + w) hc]
  ·rw [partsFrom_out s w r (c + w) (by (first | lia | omega))]
where
 partsFrom_out (s : List Nat) (w : Nat) : ∀ (cs : List Nat) (a : Nat), s.length ≤ a → StrLaws.partsFrom (toS s) w a cs = (pieces s w a cs).map toS
 | [], a, h => by
  show [strSub (toS s) a (toS s).length] = [toS (s.drop a)]
  rw [strSub_toS, List.drop_eq_nil_of_le h]
  simp
 | c :: r, a, h => by
  show strSub (toS s) a c :: StrLaws.partsFrom (toS s) w (c + w) r = toS ((s.drop a).take (c - a)) :: (pieces s w (c + w) r).map toS
  rw [strSub_toS]
  by_cases hc : c + w ≤ s.length
  ·rw [partsFrom_pieces s w r (c + w) hc]
  ·rw [partsFrom_out s w r (c + w) (by (first | lia | omega))]
theorem splitL_pieces (s w : List Nat) (hw : 0 < w.length) : ∀ (n i a : Nat), a ≤ i → i ≤ s.length → s.length - i ≤ n →
  splitL w n ((s.drop a).take (i - a)).reverse (s.drop i) = pieces s w.length a (cuts s w i (s.length + 1 - i) i)
 | 0, i, a, h1, h2, h3 => by
  have : i = s.length := by (first | lia | omega)
  subst this
  have e : s.length + 1 - s.length = 0 + 1 := by (first | lia | omega)
  rw [e]
  unfold cuts
  rw [if_neg (fun q => by have := pre_length q.2; rw [List.length_drop] at this; (first | lia | omega))]
  show [((s.drop a).take (s.length - a)).reverse.reverse ++ s.drop s.length] = [s.drop a]
  rw [List.reverse_reverse, List.take_of_length_le (by rw [List.length_drop]; exact Nat.le_refl _), List.drop_length, List.append_nil]
 | n + 1, i, a, h1, h2, h3 => by
  by_cases hi : i = s.length
  ·subst hi
   have e : s.length + 1 - s.length = 0 + 1 := by (first | lia | omega)
   rw [e, List.drop_length]
   unfold cuts
   rw [if_neg (fun q => by have := pre_length q.2; rw [List.length_drop] at this; (first | lia | omega))]
   show [((s.drop a).take (s.length - a)).reverse.reverse] = [s.drop a]
   rw [List.reverse_reverse, List.take_of_length_le (by rw [List.length_drop]; exact Nat.le_refl _)]
  ·have hlt : i < s.length := by (first | lia | omega)
   have hd := List.drop_eq_getElem_cons hlt
   have e : s.length + 1 - i = (s.length - i) + 1 := by (first | lia | omega)
   rw [e, hd]
   unfold splitL cuts
   rw [← hd]
   cases q : pre w (s.drop i) with
   | true =>
    rw [if_pos ⟨Nat.le_refl _, rfl⟩]
    have hl := pre_length q
    rw [List.length_drop] at hl
    show ((s.drop a).take (i - a)).reverse.reverse :: splitL w n [] ((s.drop i).drop w.length) = (s.drop a).take (i - a) :: pieces s w.length (i + w.length) (cuts s w (i + w.length) (s.length - i) (i + 1))
    rw [List.reverse_reverse, List.drop_drop]
    have ih := splitL_pieces s w hw n (i + w.length) (i + w.length) (Nat.le_refl _) (by (first | lia | omega)) (by (first | lia | omega))
    rw [Nat.sub_self, List.take_zero, List.reverse_nil] at ih
    rw [ih]
    have e2 : s.length - i = (s.length + 1 - (i + w.length)) + (w.length - 1) := by (first | lia | omega)
    rw [e2, cuts_skip s w (i + w.length) (w.length - 1) _ (i + 1) (by (first | lia | omega))]
   | false =>
    rw [if_neg (fun x => by simp at x)]
    show splitL w n (s[i] :: ((s.drop a).take (i - a)).reverse) (s.drop (i + 1)) = _
    have e3 : s[i] :: ((s.drop a).take (i - a)).reverse = ((s.drop a).take (i + 1 - a)).reverse := by
     have e4 : i + 1 - a = (i - a) + 1 := by (first | lia | omega)
     rw [e4, List.take_add_one, List.reverse_append]
     have : (s.drop a)[i - a]? = some s[i] := by
      rw [List.getElem?_drop]
      have : a + (i - a) = i := by (first | lia | omega)
      rw [this, List.getElem?_eq_getElem hlt]
     rw [this]; rfl
    rw [e3, splitL_pieces s w hw n (i + 1) a (by (first | lia | omega)) (by (first | lia | omega)) (by (first | lia | omega))]
    have e5 : s.length - i = s.length + 1 - (i + 1) := by (first | lia | omega)
    rw [← e5]
    have key : ∀ k, cuts s w (i + 1) k (i + 1) = cuts s w i k (i + 1) := fun k => cuts_free s w k (i + 1) (i + 1) i (Nat.le_refl _) (by (first | lia | omega))
    rw [key]
where
 cuts_free (s w : List Nat) : ∀ (k i f g : Nat), f ≤ i → g ≤ i → cuts s w f k i = cuts s w g k i
 | 0, _, _, _, _, _ => rfl
 | k + 1, i, f, g, hf, hg => by
  unfold cuts
  by_cases q : pre w (s.drop i) = true
  ·rw [if_pos ⟨hf, q⟩, if_pos ⟨hg, q⟩]
  ·rw [if_neg (fun x => q x.2), if_neg (fun x => q x.2)]
   exact cuts_free s w k (i + 1) f g (by (first | lia | omega)) (by (first | lia | omega))
theorem split_toS (s w : List Nat) (hw : 0 < w.length) (hk : Builtin.Str.strKind (toS s) < Builtin.Str.strKind (toS w) → isIn w s = false) : Txt.split (toS s) (toS w) = (splitL w s.length [] s).map toS := by
 have hoc : occurrences (toS s) (toS w) 0 (toS s).length ((toS s).length + 1) = cuts s w 0 (s.length + 1) 0 := by
  rw [StrLaws.occ_eq, toS_length]
  have := occ_cuts s w (s.length + 1) (s.length + 1) 0 0 #[] (by (first | lia | omega)) (by simp)
  rw [Nat.sub_zero]
  simpa using this
 have hsp := splitL_pieces s w hw s.length 0 0 (Nat.le_refl _) (Nat.zero_le _) (by (first | lia | omega))
 rw [Nat.sub_zero, List.take_zero, List.reverse_nil, List.drop_zero, Nat.sub_zero] at hsp
 have hnone : (∀ i, pre w (s.drop i) = false) → splitL w s.length [] s = [s] := fun h => by
  rw [hsp]
  have : ∀ k i f, cuts s w f k i = [] := by
   intro k
   induction k with
   | zero => intro i f; rfl
   | succ k ih =>
    intro i f
    unfold cuts
    rw [if_neg (fun q => by rw [h] at q; exact absurd q.2 (by decide)), ih]
  rw [this]
  show [s.drop 0] = [s]
  rw [List.drop_zero]
 have hno : isIn w s = false → splitL w s.length [] s = [s] := fun h => by
  refine hnone fun i => ?_
  cases q : pre w (s.drop i) with
  | false => rfl
  | true =>
   have hl := pre_length q
   rw [List.length_drop] at hl
   have : isIn w s = true := (isIn_iff (List.ne_nil_of_length_pos hw)).mpr ⟨i, by (first | lia | omega), q⟩
   rw [h] at this; cases this
 unfold Txt.split
 rw [hoc, toS_length, toS_length]
 by_cases hc : (decide (s.length < w.length) || decide (Builtin.Str.strKind (toS s) < Builtin.Str.strKind (toS w))) = true
 ·rw [if_pos hc]
  rw [Bool.or_eq_true] at hc
  have hi : isIn w s = false := by
   rcases hc with hc | hc
   ·have hc := of_decide_eq_true hc
    cases q : isIn w s with
    | false => rfl
    | true =>
     obtain ⟨i, h1, h2⟩ := (isIn_iff (List.ne_nil_of_length_pos hw)).mp q
     (first | lia | omega)
   ·exact hk (of_decide_eq_true hc)
  rw [hno hi]; rfl
 ·rw [if_neg hc]
  by_cases he : (cuts s w 0 (s.length + 1) 0).isEmpty = true
  ·rw [if_pos he, hsp]
   have : cuts s w 0 (s.length + 1) 0 = [] := by simpa using he
   rw [this]
   show _ = [toS (s.drop 0)]
   rw [List.drop_zero]
  ·rw [if_neg he, StrLaws.partsBetween_eq, partsFrom_pieces s w.length _ 0 (Nat.zero_le _), hsp]
end Mine
end
section
open PySem PySem.W PyProof.Rows
open PySem.SeqAt PySem.Builtin
namespace Mine
section
variable {A : Around} {b : Nat} {L : Option Addr} {w w' w2 : Ws} {K : Kn} {lo lo' : Lo} {x u y : AV} {xs : List AV} {v v2 va vb : Value} {vs : List Value} {n : Nat}
theorem Ok0.bk (ok : Ok0) (w : Ws) : NoneBooked w.s.heap := let ⟨mc, n, k⟩ := ok.booked; ⟨mc, ns_at n fun o e => w.S.base _ _ e, k⟩
theorem truth_snd (r : VR w u v) : Ev b none (Pu Bq w.H) w (wq A (truthy v) w) (truthM u w.H) := by
 refine Ev.alt ?_ (Ev.alt ?_ (Ev.alt ?_ ?_))
 ·refine r.asB truthy fun i => ?_
  exact Ep.bb fun Q E q => wpAny_truthy_bool q
 ·refine r.asI truthy fun i t => ?_
  rw [eqI_eq]
  exact Ep.bb fun Q E q => truthy_int q
 ·refine r.asS truthy fun x t => Ev.gd fun h => ?_
  have l1 := smallL_lt h
  have key : (((toS x).length : Int) != 0) = !x.isEmpty := by
   rw [toS_length]
   cases x with
   | nil => rfl
   | cons a l => exact bne_iff_ne.mpr (by show ((l.length + 1 : Nat) : Int) ≠ 0; (first | lia | omega))
  rw [← key]
  exact Ep.bb fun Q E q => P.truthy_str (by rw [toS_length]; (first | lia | omega)) q
 ·refine r.asL truthy fun i a xs vs n ha e r => Ev.gd fun h => ?_
  have l1 := smallL_lt h
  rw [r.length] at l1
  have key : (!vs.toArray.isEmpty) = !xs.isEmpty := by
   have := r.length
   cases xs <;> cases vs <;> first | rfl | cases this
  rw [← key]
  exact Ep.bb (tk := w.s.toks + 1 + 1) fun Q E q => wpAny_truthy_list ⟨_, e, rfl, _, rfl⟩ (by rw [List.size_toArray]; (first | lia | omega)) q
theorem un_snd {op : UnaryOp} (r : VR w u v) : Ev b none (Pu VR w.H) w (wq A (unaryOp op v) w) (unM op u w.H) := by
 cases op
 case Not => exact Ev.b1 (truth_snd r) (fun Q E h => not_of h) fun w' c d l e q => Op.some fun Q E k => k w' _ Le.refl ⟨e, congrArg (fun d => Value.bool !d) q⟩
 case USub =>
  refine r.asI (unaryOp .USub) fun i t => ?_
  exact Ep.imm (fun _ => VR.int) fun Q E q => neg_int q
 case Invert =>
  refine r.asI (unaryOp .Invert) fun i t => ?_
  exact Ep.imm (fun _ => VR.int) fun Q E q => invert_int q
 case UAdd => exact Ev.none
theorem eqAt_float {x y : UInt64} {t u : Tok} {s : Shared} (hb : NoneBooked s.heap) (ht : t ≠ 0) (hu : u ≠ 0) (he : fEq x y = true) : EqAt A s (.float x t) (.float y u) true := fun prog w E Q h => by
 have e0 : (t == 0 || u == 0) = false := by
  rw [Bool.or_eq_false_iff]; exact ⟨beq_eq_false_iff_ne.mpr ht, beq_eq_false_iff_ne.mpr hu⟩
 have rest : wpAny (model prog w) A (do truthOfDropped (← richCompare .Eq (.float x t) (.float y u)) : Sem Bool) Q E s := by
  refine wpAny_bind (AutoFloatOps.eq_0 ?_)
  rw [show (Float64.cmp x y == some Ordering.eq) = true from he]
  exact wpAny_truthy_bool h
 unfold eqBool
 refine wpAny_holding ?_
 refine wpAny_ite_split (fun hab => wpAny_bind (wpAny_rule (wpAny_pure h))) (fun hab => ?_)
 show wpAny _ _ (isSame.created (x == y && !Float64.isNaN x) t u >>= _) Q E s
 refine wpAny_bind ?_
 have fin : ∀ c : Bool, wpAny (model prog w) A (if c = true then (pure true : Sem Bool) else (do truthOfDropped (← richCompare .Eq (.float x t) (.float y u)))) Q E s := fun c => by
  cases c
  ·exact rest
  ·exact wpAny_pure h
 unfold isSame.created
 refine wpAny_ite ?_
 split
 ·rename_i h; rw [e0] at h; exact absurd h Bool.false_ne_true
 refine wpAny_ite ?_
 split
 ·exact wpAny_pure (fin _)
 refine wpAny_ite ?_
 split
 ·exact wpAny_pure (fin _)
 refine wpAny_bind (wpAny_sharingNotTold_none hb ?_)
 first | rw [if_neg Bool.false_ne_true] | simp only [Bool.false_eq_true, if_false]
 refine wpAny_bind (wpAny_sharingNotTold_none hb ?_)
 first | rw [if_neg Bool.false_ne_true] | simp only [Bool.false_eq_true, if_false]
 exact wpAny_bind (wpAny_rule (wpAny_bind (wpAny_askSetting (wpAny_pure (fin _)))))
theorem eq0_at (hb : NoneBooked w.s.heap) (ru : VR w u va) (ry : VR w y vb) : Op (EqAt A w.s va vb) (eq0 u y) := by
 refine Op.alt ?_ (Op.alt ?_ ?_)
 ·refine ru.osI (EqAt A w.s · vb) fun i t => ?_
  refine ry.osI (EqAt A w.s _) fun j t2 => Op.some ?_
  rw [eqI_eq]
  exact EqAt.int_int _ _ _ _
 ·refine ru.osF (EqAt A w.s · vb) fun i t z => ?_
  refine ry.osF (EqAt A w.s _) fun j t2 z2 => Op.gd fun h => Op.some (eqAt_float hb z z2 ?_)
  exact (Fl.eq_u _ _).symm.trans h
 ·refine ru.osS (EqAt A w.s · vb) fun i t => ?_
  refine ry.osS (EqAt A w.s _) fun j t2 => Op.some ?_
  rw [← toS_beq]
  exact EqAt.str_str _ _ _ _
theorem eqs_at {f : AV → AV → Option Bool} (hf : ∀ {x y va vb}, VR w x va → VR w y vb → Op (EqAt A w.s va vb) (f x y)) {ys : List AV} {ws : List Value} (r : VRs w xs vs) (q : VRs w ys ws) :
  Op (fun t => ∃ e : Nat → Bool, (∀ (j : Nat) (h1 : j < vs.length) (h2 : j < ws.length), EqAt A w.s vs[j] ws[j] (e j)) ∧ vs.length = ws.length ∧ t = (List.range vs.length).all e) (eqs f xs ys) := by
 induction xs generalizing vs ys ws with
 | nil =>
  cases r
  exact q.o0 (fun ws t => ∃ e : Nat → Bool, (∀ (j : Nat) (h1 : j < [].length) (h2 : j < ws.length), EqAt A w.s ([] : List Value)[j] ws[j] (e j)) ∧ [].length = ws.length ∧ t = (List.range [].length).all e) (Op.some ⟨fun _ => true, fun j h => absurd h (Nat.not_lt_zero j), rfl, rfl⟩)
 | cons x r' ih =>
  obtain ⟨v, vs, rfl, a, c⟩ := r
  refine q.oc (fun ws t => ∃ e : Nat → Bool, (∀ (j : Nat) (h1 : j < (v :: vs).length) (h2 : j < ws.length), EqAt A w.s (v :: vs)[j] ws[j] (e j)) ∧ (v :: vs).length = ws.length ∧ t = (List.range (v :: vs).length).all e) fun y t v2 ws d f => Op.ob1 fun p hp => Op.ob1 fun s hs => Op.some ?_
  obtain ⟨e, h1, h2, rfl⟩ := ih c f _ hs
  refine ⟨fun j => Nat.casesOn j p e, fun j l1 l2 => ?_, congrArg (· + 1) h2, ?_⟩
  ·cases j with
   | zero => exact hf a d _ hp
   | succ j => exact h1 j (Nat.lt_of_succ_lt_succ l1) (Nat.lt_of_succ_lt_succ l2)
  ·rw [List.length_cons, List.range_succ_eq_map, List.all_cons, List.all_map]; rfl
noncomputable def Both (A : Around) (w : Ws) (va vb : Value) (t : Bool) : Prop := RcAt A w.s va vb t ∧ RcNeAt A w.s va vb !t
theorem eqT_at {f : AV → AV → Option Bool} (hu : A.units < cLine) (hf : ∀ {x y va vb}, VR w x va → VR w y vb → Op (EqAt A.in1 w.s va vb) (f x y)) (ru : VR w u va) (ry : VR w y vb) : Op (Both A w va vb) (eqT f u y) := by
 refine ru.osT (Both A w · vb) fun i a vs n e r z => ?_
 refine ry.osT (Both A w _) fun j c ws m g r2 z2 => Op.gd fun _ t ht => ?_
 obtain ⟨d, h1, h2, rfl⟩ := eqs_at hf r r2 t ht
 have hh : (List.range vs.length).all d = ((List.range (min vs.toArray.size ws.toArray.size)).all d && vs.toArray.size == ws.toArray.size) := by
  rw [List.size_toArray, List.size_toArray, ← h2, Nat.min_self, beq_self_eq_true, Bool.and_true]
 rw [hh]
 exact ⟨RcAt.tuples ⟨_, e, rfl, _, rfl⟩ ⟨_, g, rfl, _, rfl⟩ hu h1, RcNeAt.tuples ⟨_, e, rfl, _, rfl⟩ ⟨_, g, rfl, _, rfl⟩ hu h1⟩
theorem eq0_self (ru : VR w u v) (ry : VR w y v) : Op (· = true) (eq0 u y) := fun t h =>
 Op.alt (P := fun t => VR w y v → t = true) (ru.osI (fun v t => VR w y v → t = true) fun i k t h q => q.osI (fun v t => v = .int i k → t = true) (fun j k2 => Op.some fun e => by cases e; exact eqI_iff.mpr rfl) t h rfl)
  (Op.alt (ru.osF (fun v t => VR w y v → t = true) fun i k _ t h q => q.osF (fun v t => t = true) (fun j k2 _ => Op.gd fun _ => Op.some rfl) t h)
   (ru.osS (fun v t => VR w y v → t = true) fun i k t h q => q.osS (fun v t => v = .str (toS i) k → t = true) (fun j k2 => Op.some fun e => by injection e with e; exact eqL_iff.mpr (toS_inj e).symm) t h rfl)) t h ry
theorem eqs_self {ys : List AV} (r : VRs w xs vs) (q : VRs w ys vs) : Op (· = true) (eqs eq0 xs ys) := by
 induction xs generalizing vs ys with
 | nil =>
  cases r
  exact q.o0 (fun _ t => t = true) (Op.some rfl)
 | cons x r' ih =>
  obtain ⟨v, vs, rfl, a, c⟩ := r
  intro t h
  refine q.oc (fun ws t => ws = v :: vs → t = true) (fun y t v2 ws d f => Op.ob1 fun p hp => Op.ob1 fun s hs => Op.some fun e => ?_) t h rfl
  cases e
  rw [eq0_self a d p hp, ih c f s hs]; rfl
theorem eq1_at (hu : A.units < cLine) (hb : NoneBooked w.s.heap) (ru : VR w u va) (ry : VR w y vb) : Op (EqAt A w.s va vb) (eq1 u y) := by
 refine Op.alt ?_ (eq0_at hb ru ry)
 have q := eqT_at hu (fun r q => eq0_at hb r q) ru ry
 intro t h
 by_cases e : va = vb
 ·subst e
  have : t = true := ru.osT (fun v t => VR w y v → t = true) (fun i a vs n e r z t h q => q.osT (fun v t => v = .ref a → t = true) (fun j c ws m g r2 z2 => Op.gd fun _ t h q => by
   cases q
   have := (e.symm.trans g : some _ = some _)
   injection this with this
   injection this with _ _ this
   injection this with this
   cases congrArg Array.toList this
   exact eqs_self r r2 t h) t h rfl) t h ry
  rw [this]; exact EqAt.same _
 ·refine ru.osT (fun v t => v ≠ vb → RcAt A w.s v vb t → EqAt A w.s v vb t) (fun i a vs n e r z t h => ry.osT (fun v t => .ref a ≠ v → RcAt A w.s (.ref a) v t → EqAt A w.s (.ref a) v t) (fun j c ws m g r2 z2 => ?_) t h) t h e (q t h).1
  exact Op.gd fun _ t _ n p => EqAt.of_refs (fun e => n (congrArg _ e)) p
theorem eq_both (hu : A.units + 1 < cLine) (hb : NoneBooked w.s.heap) (ru : VR w u va) (ry : VR w y vb) : Op (Both A w va vb) (eqM u y w.H) := by
 have hu0 : A.units < cLine := Nat.lt_of_succ_lt hu
 refine Op.alt ?_ (Op.alt ?_ (Op.alt (eqT_at hu0 (fun r q => eq1_at hu hb r q) ru ry) (Op.alt ?_ (Op.alt ?_ ?_))))
 ·refine ru.osL (Both A w · vb) fun i a xs vs n _ e r => ?_
  refine ry.osL (Both A w _) fun j c ys ws m _ g r2 => Op.gd fun _ => Op.cnd (fun _ t ht => ?_) fun hl => Op.some ?_
  ·obtain ⟨d, h1, h2, rfl⟩ := eqs_at (fun r q => eq0_at hb r q) r r2 t ht
   exact ⟨RcAt.lists ⟨_, e, rfl, _, rfl⟩ ⟨_, g, rfl, _, rfl⟩ h2 hu0 h1, RcNeAt.lists ⟨_, e, rfl, _, rfl⟩ ⟨_, g, rfl, _, rfl⟩ h2 hu0 h1⟩
  ·have hne : (vs.toArray.size != ws.toArray.size) = true := by
    rw [List.size_toArray, List.size_toArray, ← r.length, ← r2.length, bne_iff_ne]
    exact Nat.ne_of_beq_eq_false hl
   exact ⟨RcAt.lists_lengths ⟨_, e, rfl, _, rfl⟩ ⟨_, g, rfl, _, rfl⟩ hne hu0, RcNeAt.lists_lengths ⟨_, e, rfl, _, rfl⟩ ⟨_, g, rfl, _, rfl⟩ hne hu0⟩
 ·refine ru.osF (Both A w · vb) fun i t z => ?_
  refine ry.osF (Both A w _) fun j t2 z2 => Op.some ?_
  rw [Fl.eq_u]
  exact ⟨fun prog w E Q h => AutoFloatOps.eq_0 h, fun prog w E Q h => AutoFloatOps.ne_0 h⟩
 ·refine ru.osI (Both A w · vb) fun i t => ?_
  refine ry.osI (Both A w _) fun j t2 => Op.some ?_
  rw [eqI_eq]
  exact ⟨RcAt.int_int _ _ _ _, fun prog w E Q h => PyProof.Rows.ne_int h⟩
 ·refine ru.osF (Both A w · vb) fun i t z => ?_
  refine ry.osF (Both A w _) fun j t2 z2 => Op.gd fun h => Op.some ?_
  rw [← h, Fl.eq_u]
  exact ⟨fun prog w E Q h => AutoFloatOps.eq_0 h, fun prog w E Q h => AutoFloatOps.ne_0 h⟩
 ·refine ru.osS (Both A w · vb) fun i t => ?_
  refine ry.osS (Both A w _) fun j t2 => Op.some ?_
  rw [← toS_beq]
  exact ⟨RcAt.str_str _ _ _ _, fun prog w E Q h => ne_str h⟩
end
section
variable {A : Around} {b : Nat} {L : Option Addr} {w w' w2 : Ws} {K : Kn} {lo lo' : Lo} {x u y : AV} {xs : List AV} {v v2 va vb : Value} {vs : List Value} {n : Nat}
theorem intsOf_at (r : VRs w xs vs) : Op (IntsAre vs) (intsOf xs) := by
 induction xs generalizing vs with
 | nil => cases r; exact Op.some .nil
 | cons x r' ih =>
  obtain ⟨v, vs, rfl, a, c⟩ := r
  exact VR.osI a (fun v t => IntsAre (v :: vs) t) fun i k => Op.ob1 fun ns h => Op.some (.cons _ _ (ih c ns h))
theorem strsOf_at (r : VRs w xs vs) : Op (fun ss => ∃ l : List (Str × Tok), vs = strValues l ∧ l.map (·.1) = ss.map toS) (strsOf xs) := by
 induction xs generalizing vs with
 | nil => cases r; exact Op.some ⟨[], rfl, rfl⟩
 | cons x r' ih =>
  obtain ⟨v, vs, rfl, a, c⟩ := r
  refine VR.osS a (fun v (ss : List (List Nat)) => ∃ l : List (Str × Tok), v :: vs = strValues l ∧ l.map (·.1) = ss.map toS) fun i k => Op.ob1 fun ns h => Op.some ?_
  obtain ⟨l, rfl, e⟩ := ih c ns h
  exact ⟨(_, k) :: l, rfl, by rw [List.map_cons, e]; rfl⟩
section
variable {γ β : Type} {R2 : Ws → γ → β → Prop}
theorem VR.asLI {f : List Int → Option γ} (r : VR w u v) (t : Value → Sem β) (k : ∀ (i : Nat) a ns vs n, w.ρ[i]? = some a → LstAt w.s.heap a vs n → IntsAre vs ns → Ev b L R2 w (wq A (t (.ref a)) w) (f ns)) : Ev b L R2 w (wq A (t v) w) (asLI w.H u f) :=
 r.asL t fun i a xs vs n h e r => Ev.ob1 fun ns q => k i a ns vs n h e (intsOf_at r ns q)
theorem VR.asLS {f : List (List Nat) → Option γ} (r : VR w u v) (t : Value → Sem β) (k : ∀ (i : Nat) a ss l n, w.ρ[i]? = some a → LstAt w.s.heap a (strValues l) n → l.map (·.1) = ss.map toS → Ev b L R2 w (wq A (t (.ref a)) w) (f ss)) : Ev b L R2 w (wq A (t v) w) (asLS w.H u f) :=
 r.asL t fun i a xs vs n h e r => Ev.ob1 fun ss q => (strsOf_at r ss q).elim fun l p => k i a ss l n h (p.1 ▸ e) p.2
end
theorem any_ints (x : Int) {vs : List Value} {ns : List Int} (is : IntsAre vs ns) : vs.any (fun y => match y with | .int i _ => i == x | _ => false) = ns.any (eqI x) := by
 induction is with
 | nil => rfl
 | @cons i t vs' ns' is ih =>
  rw [List.any_cons, List.any_cons, ih, eqI_eq]
  show ((i == x) || _) = ((x == i) || _)
  rw [BEq.comm]
theorem cmp_lt (ru : VR w u va) (rw_ : VR w x vb) : Ev b none (Pu Bv w.H) w (wq A (compareOp .Lt va vb) w) (cmpM .Lt u x w.H) := by
 refine Ev.alt ?_ (Ev.alt ?_ ?_)
 ·refine ru.asI (compareOp .Lt · vb) fun i t => ?_
  refine rw_.asI (compareOp .Lt _) fun j t2 => ?_
  rw [ltI_eq]
  exact Ep.vv fun Q E q => lt_int q
 ·refine ru.asF (compareOp .Lt · vb) fun i t _ => ?_
  refine rw_.asF (compareOp .Lt _) fun j t2 _ => ?_
  rw [Fl.lt_u]
  exact Ep.vv fun Q E q => AutoFloatOps.lt_0 q
 ·refine ru.asB (compareOp .Lt · vb) fun i => ?_
  refine rw_.asB (compareOp .Lt _) fun j => ?_
  refine Ep.vv (tk := w.s.toks) fun Q E q => lt_bool ?_
  cases i <;> cases j <;> exact q
theorem cmp_is (ru : VR w u va) (rw_ : VR w x vb) : Ev b none (Pu Bv w.H) w (wq A (compareOp .Is va vb) w) (cmpM .Is u x w.H) := by
 refine Ev.alt ?_ ?_
 ·refine rw_.asN (compareOp .Is _) (Ev.alt ?_ ?_)
  ·refine ru.asN (compareOp .Is · _) ?_
   exact Ep.vv (tk := w.s.toks) fun Q E q => wpAny_is_self rfl q
  ·refine Ev.alt ?_ ?_
   ·refine ru.asI (compareOp .Is · _) fun i t => ?_
    exact Ep.vv fun Q E q => wpAny_is_other rfl (fun e => nomatch e) q
   ·exact ru.osC (fun v => EvP b none (Pu Bv w.H) w (wq A (compareOp .Is v _) w)) fun a => Ep.vv fun Q E q => wpAny_is_other rfl (fun e => nomatch e) q
 ·refine ru.asB (compareOp .Is · vb) fun i => ?_
  refine rw_.asB (compareOp .Is _) fun j => ?_
  refine Ep.vv (tk := w.s.toks) fun Q E q => wpAny_is_plain rfl ?_
  cases i <;> cases j <;> exact q
theorem cmp_in (ru : VR w u va) (rw_ : VR w x vb) : Ev b none (Pu Bv w.H) w (wq A (compareOp .In va vb) w) (cmpM .In u x w.H) := by
 refine ru.asI (compareOp .In · vb) fun i t => ?_
 refine rw_.asLI (compareOp .In _) fun j a ns vs n _ e r => Ev.gd fun h => ?_
 refine Ep.vv (tk := w.s.toks) fun Q E q => in_listAt (fun y => match y with | .int j _ => j == i | _ => false) ⟨_, e, rfl, _, rfl⟩ (fun y hy => ?_) ?_
 ·have hm : y ∈ vs := Array.mem_toList_iff.mpr hy
  clear e q hy h
  induction r with
  | nil => cases hm
  | cons k t2 r ih =>
   cases hm with
   | head => exact EqAt.int_int _ _ _ _
   | tail _ m => exact ih m
 ·rw [List.any_toArray, any_ints i r]; exact q
theorem cmp_snd {op : CmpOp} (ok : Ok0) (R : Rm A (n + 1)) (ru : VR w u va) (rw_ : VR w x vb) : Ev b none (Pu Bv w.H) w (wq A (compareOp op va vb) w) (cmpM op u x w.H) := by
 have hu : A.units + 1 < cLine := by have := R.un; have := cLine_is; (first | lia | omega)
 cases op
 case Eq => exact fun t h => Ep.vv (tk := w.s.toks) (fun Q E q => (eq_both hu (ok.bk w) ru rw_ t h).1 _ _ E Q q) t rfl
 case NotEq => exact Ev.ob1 fun t h => Ep.vv (tk := w.s.toks) fun Q E q => (eq_both hu (ok.bk w) ru rw_ t h).2 _ _ E Q q
 case Lt => exact cmp_lt ru rw_
 case LtE =>
  refine Ev.alt ?_ ?_
  ·refine ru.asI (compareOp .LtE · vb) fun i t => ?_
   refine rw_.asI (compareOp .LtE _) fun j t2 => ?_
   rw [leI_eq]
   exact Ep.vv fun Q E q => le_int q
  ·refine ru.asF (compareOp .LtE · vb) fun i t _ => ?_
   refine rw_.asF (compareOp .LtE _) fun j t2 _ => ?_
   rw [Fl.le_u]
   exact Ep.vv fun Q E q => AutoFloatOps.le_0 q
 case Gt =>
  refine ru.asI (compareOp .Gt · vb) fun i t => ?_
  refine rw_.asI (compareOp .Gt _) fun j t2 => ?_
  rw [ltI_eq]
  exact Ep.vv fun Q E q => PyProof.Rows.gt_int q
 case GtE =>
  refine ru.asI (compareOp .GtE · vb) fun i t => ?_
  refine rw_.asI (compareOp .GtE _) fun j t2 => ?_
  rw [leI_eq]
  exact Ep.vv fun Q E q => ge_int q
 case Is => exact cmp_is ru rw_
 case IsNot =>
  refine ru.asB (compareOp .IsNot · vb) fun i => ?_
  refine rw_.asB (compareOp .IsNot _) fun j => ?_
  refine Ep.vv (tk := w.s.toks) fun Q E q => wpAny_isNot_plain rfl ?_
  cases i <;> cases j <;> exact q
 case In => exact cmp_in ru rw_
 case NotIn =>
  refine ru.asS (compareOp .NotIn · vb) fun i t => ?_
  refine rw_.asS (compareOp .NotIn _) fun j t2 => Ev.gd fun h => ?_
  refine Ep.vv (tk := w.s.toks) fun Q E q => P.notIn_str ?_
  rw [notIn_toS (fun e => by subst e; cases h)]; exact q
end
end Mine
end
section
open PySem PySem.W PyProof.Rows
namespace Mine
section
variable {A : Around} {b : Nat} {L : Option Addr} {w w' w2 : Ws} {K : Kn} {lo lo' : Lo} {x u y : AV} {xs : List AV} {v v2 va vb : Value} {vs : List Value} {n : Nat}
theorem ixOf_inv {k : Int} {m i : Nat} (h : ixOf k m = some i) : (k < 0 ∧ -(m : Int) ≤ k ∧ i = (k + m).toNat) ∨ (0 ≤ k ∧ k < m ∧ i = k.toNat) := by
 unfold ixOf at h
 split at h <;> rename_i q <;> split at h <;> first | exact nOp h | cases h
 ·rename_i p
  exact .inl ⟨ltI_iff.mp q, leI_iff.mp p, rfl⟩
 ·rename_i p
  exact .inr ⟨Int.not_lt.mp (fun e => nomatch q.symm.trans (ltI_iff.mpr e)), ltI_iff.mp p, rfl⟩
theorem ixOf_seq {k : Int} {m i : Nat} (h : ixOf k m = some i) : seqIndex? k m = some i := by
 unfold seqIndex?
 rcases ixOf_inv h with ⟨h1, h2, rfl⟩ | ⟨h1, h2, rfl⟩
 ·simp only [h1, if_true]
  rw [if_pos]
  rw [Bool.and_eq_true]
  exact ⟨decide_eq_true (by (first | lia | omega)), decide_eq_true (by (first | lia | omega))⟩
 ·simp only [Int.not_lt.mpr h1, if_false]
  rw [if_pos]
  rw [Bool.and_eq_true]
  exact ⟨decide_eq_true h1, decide_eq_true h2⟩
theorem getItem_list_at {l : Addr} {items : Array Value} {k : Int} {t : Tok} {i : Nat} {x : Value} {s : Shared} {E : Value → Shared → Prop} {Q : Value → Shared → Prop} (hl : s.heap.IsList l items) (hk : ixOf k items.size = some i) (l1 : k.natAbs < 4611686018427387904)
  (hx : items[i]? = some x) (q : Q x s) : wpAny M0 A (getItem (.ref l) (.int k t)) Q E s := by
 rcases ixOf_inv hk with ⟨h1, h2, rfl⟩ | ⟨h1, h2, rfl⟩
 ·exact wpAny_getItem_list_neg hl h1 h2 (by (first | lia | omega)) hx q
 ·exact wpAny_getItem_list hl h1 (by (first | lia | omega)) hx q
theorem subscript_any {s : Shared} {E : Value → Shared → Prop} {Q : Value → Shared → Prop} {value slice : Expr} {env : Env} {pos : Pos}
  (h : wpAny (M0) A (eval value env) (fun o s₁ => wpAny (M0) A (eval slice env) (fun i s₂ => ItemOn (M0) A E o i Q s₂) E s₁) E s) :
  wpAny (M0) A (eval (.Subscript value slice pos) env) Q E s := by
 rw [eval_Subscript]
 refine wpAny_bind (wpAny_mono h (fun o s₁ h₁ => wpAny_bind (wpAny_holding (wpAny_mono h₁ (fun i s₂ h₂ => wpAny_bind (wpAny_standAt ?_)) fun _ _ x => x)))
  fun _ _ x => x)
 obtain ⟨T, id, hl, hT, hg⟩ := h₂
 refine wpAny_bind ?_
 rw [getitemInPython_of_ne hT.not_modules]
 refine wpAny_bind (wpAny_specialOf hT hl ?_)
 have fin : ∀ ops : List Value, wpAny (M0) A (operate ops (getItem o i)) (fun r s₃ => wpAny (M0) A (letTemporaryGo value o r >>= fun _ => pure r) Q E s₃) E s₂ := fun ops =>
  wpAny_operating (wpAny_mono hg (fun r s₃ h₃ => wpAny_bind (wpAny_letTemporaryGo (wpAny_pure h₃))) fun _ _ x => x)
 have ops : ∃ ops, subscripted slice false o i = operate ops (getItem o i) := by
  cases slice with
  | Slice _ _ st _ => cases st <;> exact ⟨_, rfl⟩
  | _ => exact ⟨_, rfl⟩
 obtain ⟨ops, ho⟩ := ops
 refine wpAny_pure ?_
 rw [ho]
 exact wpAny_bind (fin ops)
theorem toS_get (x : List Nat) (i : Nat) : (toS x).cps[i]? = nth x i := by
 rw [nth_getElem]; unfold toS; simp
theorem toI {k : Nat} {x : Value} (e : vs[k]? = some x) : vs.toArray[k]? = some x := (List.getElem?_toArray ..).trans e
noncomputable def Itm (A : Around) (w : Ws) (o i : Value) (Q : Value → Shared → Prop) (E : Value → Shared → Prop) : Prop := ItemOn M0 A E o i Q w.s
theorem idx_snd (ru : VR w u va) (rw_ : VR w x vb) : Ev b none (Pu VR w.H) w (Itm A w va vb) (idxM u x w.H) := by
 refine VR.osI rw_ (fun v => EvP b none (Pu VR w.H) w (Itm A w va v)) fun k t => Ev.gd fun hs => ?_
 have l1 := smallI_lt hs
 refine Ev.alt ?_ (Ev.alt ?_ ?_)
 ·refine ru.osL (fun v => EvP b none (Pu VR w.H) w (Itm A w v _)) fun i a xs vs n _ e r => Ev.gd fun _ => Ev.ob1 fun j hj x hx => ?_
  obtain ⟨v, ev, rv⟩ := r.nth hx
  exact Ep.at (Nat.le_refl _) rv (fun Q E q => ⟨_, _, slot_list_getitem.lookup, ⟨_, e, rfl⟩, getItem_list_at ⟨_, e, rfl, _, rfl⟩ (by rw [List.size_toArray, ← r.length]; exact hj) l1 (toI ev) q⟩) x rfl
 ·refine ru.osT (fun v => EvP b none (Pu VR w.H) w (Itm A w v _)) fun i a vs n e r _ => Ev.gd fun _ => Ev.ob1 fun j hj x hx => ?_
  obtain ⟨v, ev, rv⟩ := r.nth hx
  exact Ep.at (Nat.le_refl _) rv (fun Q E q => ⟨_, _, slot_tuple_getitem.lookup, ⟨_, e, rfl⟩, P.getItem_tuple (k := j) e (by (first | lia | omega)) (by (first | lia | omega)) (by rw [List.size_toArray, ← r.length]; exact ixOf_seq hj) (toI ev) q⟩) x rfl
 ·refine ru.osS (fun v => EvP b none (Pu VR w.H) w (Itm A w v _)) fun i t => Ev.gd fun _ => Ev.ob1 fun j hj => Ev.ob1 fun c hc => ?_
  refine Ep.at (Nat.le_succ _) VR.str fun Q E q => ⟨_, _, F.slot_str_getitem.lookup, rfl, P.getItem_str (c := c) ?_ ?_ q⟩
  ·rw [Bool.or_eq_false_iff]
   exact ⟨decide_eq_false (by (first | lia | omega)), decide_eq_false (by (first | lia | omega))⟩
  ·rw [toS_length, ixOf_seq hj]
   exact (toS_get _ _).trans hc
theorem pick_vals (r : VRs w xs vs) : ∀ ix : List Nat, VRs w (ix.filterMap (nth xs)) (ix.filterMap (vs.toArray[·]?)) := by
 intro ix
 induction ix with
 | nil => exact rfl
 | cons i ix ih =>
  cases e : nth xs i with
  | none =>
   have e2 : vs.toArray[i]? = none := by
    rw [nth_getElem] at e
    exact Array.getElem?_eq_none (by rw [List.size_toArray, ← r.length]; exact List.getElem?_eq_none_iff.mp e)
   rw [List.filterMap_cons_none e, List.filterMap_cons_none (f := (vs.toArray[·]?)) e2]
   exact ih
  | some x =>
   obtain ⟨v, ev, rv⟩ := r.nth e
   rw [List.filterMap_cons_some e, List.filterMap_cons_some (f := (vs.toArray[·]?)) (toI ev)]
   exact ⟨_, _, rfl, rv, ih⟩
theorem nbeq (a b : Nat) : (a == b) = Nat.beq a b := by
 rw [Bool.eq_iff_iff, beq_iff_eq]
 exact ⟨fun h => h ▸ Nat.beq_refl a, Nat.eq_of_beq_eq_true⟩
theorem slicePart_any {s : Shared} {E : Value → Shared → Prop} {v : Value} {k : Option Int} {Q : Option Int → Shared → Prop} (hv : IsPart v k) (h : Q k s) : wpAny (M0) A (Builtin.Slice.slicePartIndex v) Q E s := by
 cases hv with
 | none => exact slicePart_none h
 | int i t => exact slicePart_int h
theorem getItem_tuple_slice {s : Shared} {E : Value → Shared → Prop} {t sl : Addr} {items : Array Value} {vl vu vst : Value} {lo hi st : Option Int} {Q : Value → Shared → Prop} (ht : IsTup s.heap t items)
  (hs : s.heap.IsSliceOf sl vl vu vst) (pl : IsPart vl lo) (pu : IsPart vu hi) (ps : IsPart vst st) (h0 : eqI (st.getD 1) 0 = false)
  (h1 : (eqI (Builtin.Slice.sliceAdjust lo hi (st.getD 1) items.size).1 0 && eqI (st.getD 1) 1 && Nat.beq (sliceN items.size lo hi st) items.size) = true → Q (.ref t) s)
  (h2 : (eqI (Builtin.Slice.sliceAdjust lo hi (st.getD 1) items.size).1 0 && eqI (st.getD 1) 1 && Nat.beq (sliceN items.size lo hi st) items.size) = false →
   Q (.ref s.heap.objs.size) { s with heap := s.heap.push { cls := .type "tuple", data := .seq ((List.range (sliceN items.size lo hi st)).filterMap fun (k : Nat) => items[((Builtin.Slice.sliceAdjust lo hi (st.getD 1) items.size).1 + (k : Int) * st.getD 1).toNat]?).toArray } })
  (hsz : (((List.range (sliceN items.size lo hi st)).filterMap fun (k : Nat) => items[((Builtin.Slice.sliceAdjust lo hi (st.getD 1) items.size).1 + (k : Int) * st.getD 1).toNat]?).toArray.size ≤ sizeLine)) : wpAny (M0) A (getItem (.ref t) (.ref sl)) Q E s := by
 obtain ⟨os, hos, hcs, hds⟩ := id hs
 have hTs : s.TypeIs (.ref sl) "slice" := ⟨os, hos, hcs⟩
 have happ : ∀ {Q : Int × Int × Nat → Shared → Prop}, Q ((Builtin.Slice.sliceAdjust lo hi (st.getD 1) items.size).1, st.getD 1, sliceN items.size lo hi st) s → ∀ E, wpAny (M0) A.in1 (Builtin.Slice.sliceApplied (.ref sl) (pure (items.size : Int))) Q E s := fun h E => by
  unfold Builtin.Slice.sliceApplied Builtin.Slice.sliceFields
  refine wpAny_bind (wpAny_bind (wpAny_field hos hds (x := vl) rfl (wpAny_bind (wpAny_field hos hds (x := vu) rfl (wpAny_bind (wpAny_field hos hds (x := vst) rfl (wpAny_pure ?_)))))))
  refine wpAny_bind (slicePart_any ps ?_)
  show wpAny _ _ (if (st.getD 1 == 0) = true then _ else _) _ _ s
  rw [if_neg (by rw [← eqI_eq, h0]; exact Bool.false_ne_true)]
  refine wpAny_bind (slicePart_any pl (wpAny_bind (slicePart_any pu (wpAny_bind (wpAny_pure ?_)))))
  exact wpAny_pure h
 unfold getItem
 try with_reducible refine wpAny_holding ?_
 first | refine wpAny_bind (wpAny_pure ?_) | skip
 refine wpAny_bind (wpAny_sequenceKey ht.typeIs (by decide) ?_)
 refine wpAny_bind (wpAny_callSpecial?_slot (name := Str.ofString "__getitem__") ht.typeIs PyProof.Rows.slot_tuple_getitem
  (wpAny_call_entry PyProof.Rows.slot_tuple_getitem ht.typeIs PyProof.Rows.entry_tuple_getitem ?_ (PyProof.Rows.args_tuple_getitem _ _)))
 show wpAny _ _ (Builtin.Tuple.tupleItemsOf (.ref t) >>= _) _ _ s
 refine wpAny_bind (tupleItemsOf_ ht ?_)
 refine wpAny_bind (wpAny_typeOf hTs ?_)
 rw [if_pos (by decide)]
 refine wpAny_bind (happ ?_ _)
 have hcond : ((Builtin.Slice.sliceAdjust lo hi (st.getD 1) items.size).1 == 0 && st.getD 1 == 1 && (sliceN items.size lo hi st) == items.size) = (eqI (Builtin.Slice.sliceAdjust lo hi (st.getD 1) items.size).1 0 && eqI (st.getD 1) 1 && Nat.beq (sliceN items.size lo hi st) items.size) := by
  rw [eqI_eq, eqI_eq, nbeq]
 have hmk : ∀ {d : Data} {Q' : Value → Shared → Prop} {E' : Value → Shared → Prop}, sizeOk d → Q' (.ref s.heap.objs.size) { s with heap := s.heap.push { cls := .type "tuple", data := d } } → wpAny (M0) A.in1 (newObj (.type "tuple") d) Q' E' s := fun hd q => wpAny_newObj_type q hd
 show wpAny _ _ (if ((Builtin.Slice.sliceAdjust lo hi (st.getD 1) items.size).1 == 0 && st.getD 1 == 1 && (sliceN items.size lo hi st) == items.size) = true then _ else _) _ _ s
 rw [hcond]
 cases hc : (eqI (Builtin.Slice.sliceAdjust lo hi (st.getD 1) items.size).1 0 && eqI (st.getD 1) 1 && Nat.beq (sliceN items.size lo hi st) items.size)
 ·rw [if_neg Bool.false_ne_true]
  exact wpAny_bind (m := Builtin.Tuple.tupleExact _) (hmk (d := .seq _) hsz (wpAny_pure ⟨_, rfl, wpAny_pure (h2 hc)⟩))
 ·rw [if_pos rfl]
  unfold Builtin.Tuple.tupleIsExact
  refine wpAny_bind (wpAny_bind (wpAny_typeOf ht.typeIs (wpAny_pure ?_)))
  rw [if_pos (by decide)]
  refine wpAny_bind (wpAny_rule (wpAny_pure ?_))
  exact ⟨_, rfl, wpAny_pure (h1 hc)⟩
structure Sl (w : Ws) (sl : Addr) (lo hi st : Option Int) : Prop where
 h : ∃ vl vu vst, w.s.heap.IsSliceOf sl vl vu vst ∧ IsPart vl lo ∧ IsPart vu hi ∧ IsPart vst st
theorem slc_list {a sl : Addr} {lo hi st : Option Int} (hs : Sl w sl lo hi st) (hst : st ≠ some 0) (e : w.s.heap.IsList a vs.toArray) (r : VRs w xs vs) (hz : smallL xs = true) : Ev b none (Pr VR) w (Itm A w (.ref a) (.ref sl)) (newL w.H (sliceL xs lo hi st)) := by
 have l1 := smallL_lt hz
 rw [r.length] at l1
 obtain ⟨vl, vu, vst, h, pl, pu, ps⟩ := hs.h
 have key : slicePick vs.toArray lo hi st = ((sliceRange (sliceBounds lo hi st xs.length).1 (sliceBounds lo hi st xs.length).2.1 (sliceBounds lo hi st xs.length).2.2).filterMap (vs.toArray[·]?)).toArray := by
  unfold slicePick
  rw [List.size_toArray, ← r.length]
 refine Op.some fun Q E q => ⟨_, _, slot_list_getitem.lookup, e.typeIs, wpAny_getItem_list_slice e h pl pu ps hst ?_ (by rw [List.size_toArray, sizeLine_is]; (first | lia | omega))⟩
 rw [key]
 exact q (w.next (Post.newLst w.S (pick_vals r _) w.s.heap.objs.size (Nat.le_refl _) (fun _ _ e => Heap.get?_push_of_some _ e) (Heap.get?_push_size _ rfl)) (Nat.le_refl _)) _ (Le.next _ _) ⟨rfl, _, rfl, w.S.len ▸ app_last⟩
theorem slc_tup {a sl : Addr} {n : Nat} {lo hi st : Option Int} (hs : Sl w sl lo hi st) (h0 : eqI (st.getD 1) 0 = false) (e : TupAt w.s.heap a vs n) (hu : ¬ w.U a) (r : VRs w xs vs) (hz : Nat.ble (sliceN xs.length lo hi st) 1000000 = true) : Ev b none (Pr VR) w (Itm A w (.ref a) (.ref sl)) (some (.tup (sliceT xs lo hi st), w.H)) := by
 obtain ⟨vl, vu, vst, h, pl, pu, ps⟩ := hs.h
 have hlen : vs.toArray.size = xs.length := by rw [List.size_toArray, ← r.length]
 have rv := pick_vals r ((List.range (sliceN xs.length lo hi st)).map fun (k : Nat) => ((Builtin.Slice.sliceAdjust lo hi (st.getD 1) xs.length).1 + (k : Int) * st.getD 1).toNat)
 rw [List.filterMap_map, List.filterMap_map] at rv
 refine Op.some fun Q E q => ⟨_, _, PyProof.Rows.slot_tuple_getitem.lookup, ⟨_, e, rfl⟩, getItem_tuple_slice ⟨_, e, rfl, _, rfl⟩ h pl pu ps h0 (fun hc => ?_) (fun hc => ?_) ?_⟩
 ·refine q w _ Le.refl ⟨rfl, ?_⟩
  rw [hlen] at hc
  unfold sliceT
  rw [hc]
  exact ⟨_, _, _, rfl, e, hu, r⟩
 ·rw [hlen] at hc ⊢
  refine q (w.next (Post.push w.S _) (Nat.le_refl _)) _ (Le.next _ _) ⟨rfl, ?_⟩
  unfold sliceT
  rw [hc]
  exact ⟨_, _, _, rfl, Heap.get?_push_size _ rfl, w.S.notHid (Nat.le_refl _), VRs.up rv (Le.next (Post.push w.S _ : Post w.U b _ _ _ _ _ _) (Nat.le_refl _))⟩
 ·rw [hlen, List.size_toArray, sizeLine_is]
  refine Nat.le_trans (Nat.le_trans (List.length_filterMap_le _ _) ?_) (by decide : 1000000 ≤ 16777216)
  rw [List.length_range]
  exact Nat.le_of_ble_eq_true hz
theorem str_cond (x : List Nat) (lo hi st : Option Int) : ((st.getD 1 == 1) && (Builtin.Str.strSliceIndices lo hi (st.getD 1) (toS x).length).length == (toS x).length) = (eqI (st.getD 1) 1 && Nat.beq (sliceIx x.length lo hi st).length x.length) := by
 rw [eqI_eq, nbeq, toS_length]; rfl
theorem str_pick (x : List Nat) (lo hi st : Option Int) : (⟨((Builtin.Str.strSliceIndices lo hi (st.getD 1) (toS x).length).filterMap ((toS x).cps[·]?)).toArray⟩ : Str) = toS ((sliceIx x.length lo hi st).filterMap (nth x)) := by
 have e1 : ((toS x).cps[·]?) = nth x := funext fun i => toS_get x i
 rw [e1, toS_length]; rfl
theorem part_of {v : Value} {o : Option Int} (p : IsPart v o) : ∃ p : Option (Int × Tok), v = partValue p ∧ p.map (·.1) = o := by
 cases p with
 | none => exact ⟨none, rfl, rfl⟩
 | int i t => exact ⟨some (i, t), rfl, rfl⟩
theorem slc_str {sl : Addr} {lo hi st : Option Int} {x : List Nat} {t : Tok} (hs : Sl w sl lo hi st) (h0 : eqI (st.getD 1) 0 = false) (hz : smallL (sliceS x lo hi st) = true) : Ev b none (Pr VR) w (Itm A w (.str (toS x) t) (.ref sl)) (some (.str (sliceS x lo hi st), w.H)) := by
 refine Op.some fun Q E k => ?_
 obtain ⟨vl, vu, vst, ⟨os, hos, hcs, hds⟩, pl, pu, ps⟩ := hs.h
 obtain ⟨p1, rfl, e1⟩ := part_of pl
 obtain ⟨p2, rfl, e2⟩ := part_of pu
 obtain ⟨p3, rfl, e3⟩ := part_of ps
 refine ⟨_, _, F.slot_str_getitem.lookup, rfl, wpAny_getItem_str_slice ⟨os, hos, hcs, hds⟩ (by rw [e3, ← eqI_eq]; exact h0) ?_⟩
 unfold sliceMade slicePicked
 rw [e1, e2, e3, str_cond, str_pick]
 have fin : ∀ {s : List Nat} {tk t : Nat}, sliceS x lo hi st = s → w.s.toks ≤ tk → Q (.str (toS s) t) { w.s with toks := tk } := fun e l => k (w.next (Post.refl w.S) l) _ (Le.next _ l) ⟨rfl, e ▸ VR.str⟩
 cases hc : (eqI (st.getD 1) 1 && Nat.beq (sliceIx x.length lo hi st).length x.length)
 ·have es : sliceS x lo hi st = (sliceIx x.length lo hi st).filterMap (nth x) := by unfold sliceS; rw [hc]; rfl
  rw [if_neg Bool.false_ne_true]
  have l1 := smallL_lt (es ▸ hz)
  exact ⟨by rw [toS_length, sizeLine_is]; (first | lia | omega), fin es (Nat.le_succ _)⟩
 ·rw [if_pos rfl]
  exact fin (by unfold sliceS; rw [hc]; rfl) (Nat.le_refl _)
theorem slc_snd {sl : Addr} {lo hi st : Option Int} (ru : VR w u va) (hs : Sl w sl lo hi st) : Ev b none (Pr VR) w (Itm A w va (.ref sl)) (slcM u lo hi st w.H) := by
 refine Ev.gd fun h0 => ?_
 have h0 := Bool.not_eq_true' _ ▸ h0
 have hst : st ≠ some 0 := fun e => by subst e; cases h0
 refine Ev.alt ?_ (Ev.alt ?_ (Ev.alt ?_ ?_))
 ·exact ru.osL (fun v => EvP b none (Pr VR) w (Itm A w v _)) fun i a xs vs n _ e r => Ev.gd fun hz => slc_list hs hst ⟨_, e, rfl, _, rfl⟩ r hz
 ·exact ru.osZ (fun v => EvP b none (Pr VR) w (Itm A w v _)) fun i a o vs n e f j r => Ev.gd fun hz => slc_list hs hst ⟨_, w.S.base _ _ e, f, _, j⟩ r hz
 ·exact ru.osT (fun v => EvP b none (Pr VR) w (Itm A w v _)) fun i a vs n e r z => Ev.gd fun hz => slc_tup hs h0 e z r (and_split hz).2
 ·exact ru.osS (fun v => EvP b none (Pr VR) w (Itm A w v _)) fun x t => Ev.gd fun hz => slc_str hs h0 hz
end
end Mine
end
section
open PySem PySem.W PyProof.Rows
open PySem.SeqAt PySem.Builtin
namespace Mine
noncomputable def fGt (a b : UInt64) : Bool := Float64.cmp a b == some Ordering.gt
noncomputable def BF.val : BF → Value
 | .len => .builtin "len" | .sum => .builtin "sum" | .list => .type "list" | .tuple => .type "tuple" | .sorted => .builtin "sorted" | .divmod => .builtin "divmod" | .max => .builtin "max" | .min => .builtin "min" | .int => .type "int" | .chr => .builtin "chr" | .range => .type "range"
theorem insI_perm (x : Int) : ∀ l : List Int, (insI x l).Perm (x :: l)
 | [] => .refl _
 | y :: r => by
  unfold insI
  cases leI x y with
  | true => exact .refl _
  | false => exact ((insI_perm x r).cons y).trans (.swap _ _ _)
theorem sortI_perm : ∀ ns, (sortI ns).Perm ns
 | [] => .refl _
 | x :: r => (insI_perm x _).trans ((sortI_perm r).cons x)
theorem insI_rises (x : Int) : ∀ l : List Int, l.Pairwise (· ≤ ·) → (insI x l).Pairwise (· ≤ ·)
 | [], _ => List.pairwise_singleton _ _
 | y :: r, h => by
  obtain ⟨h1, h2⟩ := List.pairwise_cons.mp h
  unfold insI
  cases e : leI x y with
  | true =>
   rw [leI_iff] at e
   refine List.pairwise_cons.mpr ⟨fun z hz => ?_, h⟩
   rcases List.mem_cons.mp hz with rfl | hz
   ·exact e
   ·exact Int.le_trans e (h1 z hz)
  | false =>
   have e : ¬ x ≤ y := fun q => by rw [leI_iff.mpr q] at e; cases e
   refine List.pairwise_cons.mpr ⟨fun z hz => ?_, insI_rises x r h2⟩
   rcases List.mem_cons.mp ((insI_perm x r).mem_iff.mp hz) with rfl | hz
   ·omega
   ·exact h1 z hz
theorem sortI_rises : ∀ ns, (sortI ns).Pairwise (· ≤ ·)
 | [] => .nil
 | x :: r => insI_rises x _ (sortI_rises r)
theorem eq_sortI {ns ns' : List Int} (hp : ns'.Perm ns) (hs : ns'.Pairwise (· ≤ ·)) : ns' = sortI ns :=
 List.Perm.eq_of_pairwise (fun _ _ _ _ a b => Int.le_antisymm a b) hs (sortI_rises ns) (hp.trans (sortI_perm ns).symm)
section
variable {A : Around} {b : Nat} {L : Option Addr} {w w' w2 : Ws} {K : Kn} {lo lo' : Lo} {x u y : AV} {xs : List AV} {v v2 va vb : Value} {vs : List Value} {n : Nat}
theorem max_u (x y z : Fl) : (cond (Fl.gt z (cond (Fl.gt y x) y x)) z (cond (Fl.gt y x) y x)).u = cond (fGt z.u (cond (fGt y.u x.u) y.u x.u)) z.u (cond (fGt y.u x.u) y.u x.u) := by
 have g : ∀ a b : Fl, fGt a.u b.u = Fl.gt a b := fun a b => (Fl.gt_u a b).symm
 rw [g y x]
 cases Fl.gt y x <;> simp only [cond_true, cond_false] <;> rw [g]
 ·cases Fl.gt z x <;> rfl
 ·cases Fl.gt z y <;> rfl
theorem min_u (x y z : Fl) : (cond (Fl.lt z (cond (Fl.lt y x) y x)) z (cond (Fl.lt y x) y x)).u = cond (fLt z.u (cond (fLt y.u x.u) y.u x.u)) z.u (cond (fLt y.u x.u) y.u x.u) := by
 have g : ∀ a b : Fl, fLt a.u b.u = Fl.lt a b := fun a b => (Fl.lt_u a b).symm
 rw [g y x]
 cases Fl.lt y x <;> simp only [cond_true, cond_false] <;> rw [g]
 ·cases Fl.lt z x <;> rfl
 ·cases Fl.lt z y <;> rfl
noncomputable def fltAt (x y z : UInt64) : Nat → UInt64
 | 0 => x
 | 1 => y
 | _ => z
noncomputable abbrev F3 (x y z : UInt64) (t u o : Tok) : Array Value := #[.float x t, .float y u, .float z o]
theorem flt3 {x y z : UInt64} {t u o : Tok} {i : Nat} {v : Value} (h : (F3 x y z t u o)[i]? = some v) : ∃ t, v = .float (fltAt x y z i) t := by
 match i, h with
 | 0, h => cases h; exact ⟨_, rfl⟩
 | 1, h => cases h; exact ⟨_, rfl⟩
 | 2, h => cases h; exact ⟨_, rfl⟩
theorem CmpOf.flts_gt {prog : Program} {w : World} {A : Around} (x y z : UInt64) (t u o : Tok) : CmpOf prog w A .Gt (fun i v => (F3 x y z t u o)[i]? = some v) (fun i j => fGt (fltAt x y z i) (fltAt x y z j)) := fun i j vi vj s Q E hi hj h => by
 obtain ⟨t, rfl⟩ := flt3 hi
 obtain ⟨u, rfl⟩ := flt3 hj
 exact AutoFloatOps.gt_0 h
theorem CmpOf.flts_lt {prog : Program} {w : World} {A : Around} (x y z : UInt64) (t u o : Tok) : CmpOf prog w A .Lt (fun i v => (F3 x y z t u o)[i]? = some v) (fun i j => fLt (fltAt x y z i) (fltAt x y z j)) := fun i j vi vj s Q E hi hj h => by
 obtain ⟨t, rfl⟩ := flt3 hi
 obtain ⟨u, rfl⟩ := flt3 hj
 exact AutoFloatOps.lt_0 h
theorem best3 (c : UInt64 → UInt64 → Bool) {x y z : UInt64} {t u o : Tok} {v : Value} (ht : t ≠ 0) (hu : u ≠ 0) (ho : o ≠ 0) (h : (F3 x y z t u o)[argBest (fun i j => c (fltAt x y z i) (fltAt x y z j)) 2]? = some v) :
  ∃ k, v = .float (cond (c z (cond (c y x) y x)) z (cond (c y x) y x)) k ∧ k ≠ 0 := by
 have h : (F3 x y z t u o)[if c z (fltAt x y z (if c y x = true then 1 else 0)) = true then 2 else (if c y x = true then 1 else 0)]? = some v := h
 cases h1 : c y x
 ·rw [h1, if_neg Bool.false_ne_true] at h
  have h : (F3 x y z t u o)[if c z x = true then 2 else 0]? = some v := h
  show ∃ k, v = .float (cond (c z x) z x) k ∧ k ≠ 0
  cases h2 : c z x
  ·rw [h2, if_neg Bool.false_ne_true] at h; cases h; exact ⟨_, rfl, ht⟩
  ·rw [h2, if_pos rfl] at h; cases h; exact ⟨_, rfl, ho⟩
 ·rw [h1, if_pos rfl] at h
  have h : (F3 x y z t u o)[if c z y = true then 2 else 1]? = some v := h
  show ∃ k, v = .float (cond (c z y) z y) k ∧ k ≠ 0
  cases h2 : c z y
  ·rw [h2, if_neg Bool.false_ne_true] at h; cases h; exact ⟨_, rfl, hu⟩
  ·rw [h2, if_pos rfl] at h; cases h; exact ⟨_, rfl, ho⟩
theorem new3 {h : Heap} {d : Addr} {o1 o2 : Obj} (hd : d ∈ [(h.push o1).objs.size, h.objs.size]) : d < ((h.push o1).push o2).objs.size := by
 rw [Heap.size_push, Heap.size_push] at *
 rcases List.mem_cons.mp hd with rfl | hd
 ·exact Nat.lt_succ_self _
 ·rcases List.mem_cons.mp hd with rfl | hd
  ·exact Nat.lt_succ_of_lt (Nat.lt_succ_self _)
  ·cases hd
theorem old3 {h h' : Heap} {o1 o2 : Obj} (hk : ∀ d o, d ∉ [(h.push o1).objs.size] → ((h.push o1).push o2).get? d = some o → h'.get? d = some o) (d : Addr) (o : Obj) (e : h.get? d = some o) : h'.get? d = some o :=
 hk d o (fun hm => by
  rw [List.mem_singleton, Heap.size_push] at hm
  have := Heap.lt_size e
  rw [hm] at this
  exact Nat.lt_irrefl _ (Nat.lt_of_succ_lt this)) (Heap.get?_push_of_some _ (Heap.get?_push_of_some _ e))
theorem max3 {x y z : UInt64} {t u o : Tok} {s : Shared} {E : Value → Shared → Prop} {Q : Value → Shared → Prop} (hh : A.handled = none) (ht : t ≠ 0) (hu : u ≠ 0) (ho : o ≠ 0)
  (h : ∀ h' tk tk', (∀ d o, s.heap.get? d = some o → h'.get? d = some o) → tk' ≠ 0 → Q (.float (cond (fGt z (cond (fGt y x) y x)) z (cond (fGt y x) y x)) tk') { s with heap := h', toks := tk }) :
  wpAny M0 A (call (.builtin "max") [.float x t, .float y u, .float z o]) Q E s := by
 have hT : (s.heap.push { cls := .type "tuple", data := .seq (F3 x y z t u o) }).IsTuple s.heap.objs.size (F3 x y z t u o) := ⟨_, Heap.get?_push_size _ rfl, rfl, 0, rfl⟩
 refine call_max_three (wpAny_pyIter_tuple hT ?_)
 refine ⟨_, [_, s.heap.objs.size], [_], _, _, _, _, rfl, Walks.tuple (A := A.in1) hh _ s.heap.objs.size (by rw [Heap.size_push]; exact Nat.ne_of_lt (Nat.lt_succ_self _)) (F3 x y z t u o),
  ⟨⟨_, Heap.get?_push_size _ rfl, rfl, rfl⟩, hT.push _⟩, fun d hd => new3 hd, Nat.succ_pos _, CmpOf.flts_gt x y z t u o, fun v h' tk hP hk => ?_⟩
 obtain ⟨k, rfl, hk0⟩ := best3 fGt ht hu ho hP
 exact h h' tk k (old3 hk) hk0
theorem min3 {x y z : UInt64} {t u o : Tok} {s : Shared} {E : Value → Shared → Prop} {Q : Value → Shared → Prop} (hh : A.handled = none) (ht : t ≠ 0) (hu : u ≠ 0) (ho : o ≠ 0)
  (h : ∀ h' tk tk', (∀ d o, s.heap.get? d = some o → h'.get? d = some o) → tk' ≠ 0 → Q (.float (cond (fLt z (cond (fLt y x) y x)) z (cond (fLt y x) y x)) tk') { s with heap := h', toks := tk }) :
  wpAny M0 A (call (.builtin "min") [.float x t, .float y u, .float z o]) Q E s := by
 have hT : (s.heap.push { cls := .type "tuple", data := .seq (F3 x y z t u o) }).IsTuple s.heap.objs.size (F3 x y z t u o) := ⟨_, Heap.get?_push_size _ rfl, rfl, 0, rfl⟩
 refine call_min_three (wpAny_pyIter_tuple hT ?_)
 refine ⟨_, [_, s.heap.objs.size], [_], _, _, _, _, rfl, Walks.tuple (A := A.in1) hh _ s.heap.objs.size (by rw [Heap.size_push]; exact Nat.ne_of_lt (Nat.lt_succ_self _)) (F3 x y z t u o),
  ⟨⟨_, Heap.get?_push_size _ rfl, rfl, rfl⟩, hT.push _⟩, fun d hd => new3 hd, Nat.succ_pos _, CmpOf.flts_lt x y z t u o, fun v h' tk hP hk => ?_⟩
 obtain ⟨k, rfl, hk0⟩ := best3 fLt ht hu ho hP
 exact h h' tk k (old3 hk) hk0
theorem smallI_bd {a : Int} (h : smallI a = true) : -4611686018427387904 < a ∧ a < 4611686018427387904 := by have := smallI_lt h; constructor <;> (first | lia | omega)
theorem fits_l {i : Int} (h1 : -9223372036854775808 ≤ i) (h2 : i < 9223372036854775808) : Builtin.Range.rangeFitsLong i = true := by
 unfold Builtin.Range.rangeFitsLong
 rw [Bool.and_eq_true]
 exact ⟨decide_eq_true h1, decide_eq_true h2⟩
theorem rangeSize_bd {a c d : Int} : 0 ≤ Builtin.Range.rangeSize a c d ∧ (Builtin.Range.rangeSize a c d ≤ c - a ∨ Builtin.Range.rangeSize a c d ≤ a - c ∨ Builtin.Range.rangeSize a c d ≤ 0) := by
 have key : ∀ {x y : Int}, 0 < x → 0 ≤ y → 0 ≤ (x - 1) / y + 1 ∧ (x - 1) / y + 1 ≤ x := fun {x y} h1 h2 => by
  have q1 := Int.ediv_le_self (a := x - 1) y (Int.le_sub_one_of_lt h1)
  have q2 := Int.ediv_nonneg (a := x - 1) (b := y) (Int.le_sub_one_of_lt h1) h2
  exact ⟨Int.le_add_one q2, Int.add_le_of_le_sub_right q1⟩
 unfold Builtin.Range.rangeSize
 split
 ·split
  ·rename_i h1 h2
   have := key (x := c - a) (y := d) (Int.sub_pos_of_lt h2) (Int.le_of_lt h1)
   exact ⟨this.1, .inl this.2⟩
  ·exact ⟨Int.le_refl _, .inr (.inr (Int.le_refl _))⟩
 ·split
  ·rename_i h1 h2
   have := key (x := a - c) (y := -d) (Int.sub_pos_of_lt h2) (Int.neg_nonneg_of_nonpos (Int.not_lt.mp h1))
   exact ⟨this.1, .inr (.inl this.2)⟩
  ·exact ⟨Int.le_refl _, .inr (.inr (Int.le_refl _))⟩
theorem rng_small {a c d : Int} (h1 : smallI a = true) (h2 : smallI c = true) (h3 : smallI d = true) : Builtin.Range.small a c d = true := by
 have l1 := smallI_bd h1
 have l2 := smallI_bd h2
 have l3 := smallI_bd h3
 have hs := rangeSize_bd (a := a) (c := c) (d := d)
 have f : ∀ {i : Int}, -4611686018427387904 < i ∧ i < 4611686018427387904 → Builtin.Range.rangeFitsLong i = true := fun h => fits_l (Int.le_of_lt (Int.lt_trans (by decide) h.1)) (Int.lt_trans h.2 (by decide))
 unfold Builtin.Range.small
 rw [f l1, f l2, f l3, fits_l (Int.le_trans (by decide) hs.1) (by (first | lia | omega))]
 refine Bool.or_eq_true_iff.mpr (.inr ?_)
 split <;> exact fits_l (by (first | lia | omega)) (by (first | lia | omega))
theorem rangeN_eq {a c d : Int} (hd : d ≠ 0) : Builtin.Range.rangeSize a c d = (rangeN a c d : Int) := by
 unfold rangeN
 exact (Int.toNat_of_nonneg rangeSize_bd.1).symm
theorem ints_rel {h : Heap} {U : Addr → Prop} {ρ : List Addr} {ns : List Int} (i : IntsAre vs ns) : VRels U ρ h (ns.map .int) vs := by
 induction i with
 | nil => exact rfl
 | cons n t _ ih => exact ⟨_, _, rfl, ⟨_, rfl⟩, ih⟩
theorem made_rel {α : Type} (f : α → AV) : ∀ (xs : List α) (vs : List Value), vs.length = xs.length → (∀ (j : Nat) (hj : j < xs.length) (v : Value), vs[j]? = some v → VR w (f xs[j]) v) → VRs w (xs.map f) vs
 | [], [], _, _ => rfl
 | [], _ :: _, e, _ => nomatch e
 | _ :: _, [], e, _ => nomatch e
 | x :: xs, v :: vs, e, k => ⟨_, _, rfl, k 0 (Nat.succ_pos _) v rfl, made_rel f xs vs (Nat.succ.inj e) fun j hj w hw => k (j + 1) (Nat.succ_lt_succ hj) w hw⟩
theorem ints_cut {vs : List Value} {ns : List Int} (is : IntsAre vs ns) : ∃ ys, vs.toArray = intItems ys ∧ ns = ys.toList.map (·.1) := by
 obtain ⟨ys, ey⟩ := is.allInts.items
 exact ⟨ys, ey, by rw [← is.numsOf, show vs = vs.toArray.toList from rfl, ey, nums_intItems]⟩
theorem bf_len (r : VRs w xs vs) : Ea A b w (call (BF.val .len) vs) (bfM .len xs w.H) := by
 refine r.t1 (fun l => call (BF.val .len) l) fun x v r => Ev.alt ?_ (Ev.alt ?_ ?_)
 ·refine r.asS (fun v => call (BF.val .len) [v]) fun i t => Ev.gd fun h => ?_
  have l1 := smallL_lt h
  rw [← toS_length] at l1 ⊢
  exact Ea.imm VR.int fun Q E q => P.len_str (by (first | lia | omega)) q
 ·refine r.asT (fun v => call (BF.val .len) [v]) fun i a vs n e r _ => Ev.gd fun h => ?_
  have l1 := smallL_lt h
  rw [r.length] at l1 ⊢
  exact Ea.imm VR.int fun Q E q => P.len_tuple e (by rw [List.size_toArray]; (first | lia | omega)) q
 ·refine r.asL (fun v => call (BF.val .len) [v]) fun i a xs vs n _ e r => Ev.gd fun h => ?_
  have l1 := smallL_lt h
  rw [r.length] at l1 ⊢
  exact Ea.imm VR.int fun Q E q => len_list ⟨_, e, rfl, _, rfl⟩ (by rw [List.size_toArray]; (first | lia | omega)) q
theorem bf_list (R : Rm A n) (r : VRs w xs vs) : Ea A b w (call (BF.val .list) vs) (bfM .list xs w.H) := by
 refine r.t1 (fun l => call (BF.val .list) l) fun x v r => Ev.alt ?_ ?_
 ·refine r.asG (fun v => call (BF.val .list) [v]) fun a c d l t0 t1 t2 e => Ev.gd fun hz => Ea.of fun Q E k => ?_
  obtain ⟨hz, h5⟩ := and_split hz
  obtain ⟨hz, h4⟩ := and_split hz
  obtain ⟨hz, h3⟩ := and_split hz
  obtain ⟨h1, h2⟩ := and_split hz
  have l5 : rangeN a c d < 1000 := Nat.le_of_ble_eq_true h5
  refine call_list_range R.hd e (n := rangeN a c d) (rng_small h1 h2 h3) (rangeN_eq (eqI_ne h4)) (by (first | lia | omega)) fun h' tk acc' c' hk he hacc => ?_
  obtain ⟨hsz, hat⟩ := hacc
  refine k h' tk _ _ (Post.newLst (n := c') (vs := acc'.toList) w.S ?_ _ (Nat.le_refl _) hk he) ⟨_, rfl, w.S.len ▸ app_last⟩
  unfold rangeL
  rw [List.map_map]
  refine made_rel (w := w) _ _ _ (by rw [List.length_range]; exact hsz) fun j hj v hv => ?_
  obtain ⟨t, rfl⟩ := hat j v (Array.getElem?_toList .. ▸ hv)
  rw [List.getElem_range]
  exact VR.int
 ·refine r.asS (fun v => call (BF.val .list) [v]) fun x t => Ev.gd fun h => Ea.of fun Q E k => ?_
  have l1 := smallL_lt h
  have hx : (toS x).cps.size = x.length := toS_length x
  refine call_list_str R.hd _ _ (fun h' tk acc' c' hk he hacc => ?_) (by rw [sizeLine_is, hx]; (first | lia | omega))
  obtain ⟨hsz, hat⟩ := hacc
  refine k h' tk _ _ (Post.newLst (n := c') (vs := acc'.toList) w.S ?_ _ (Nat.le_refl _) hk he) ⟨_, rfl, w.S.len ▸ app_last⟩
  refine made_rel (w := w) _ _ _ (hsz.trans hx) fun j hj v hv => ?_
  obtain ⟨c, u, hc, rfl⟩ := hat j v (Array.getElem?_toList .. ▸ hv)
  rw [toS_get, nth_getElem, List.getElem?_eq_getElem hj] at hc
  rw [Option.some.inj hc]
  exact VR.str
theorem bf_range (r : VRs w xs vs) : Ea A b w (call (BF.val .range) vs) (bfM .range xs w.H) := by
 refine Ev.alt ?_ (Ev.alt ?_ ?_)
 ·refine r.t1 (fun l => call (BF.val .range) l) fun x v r => r.asI (fun v => call (BF.val .range) [v]) fun i t => Ev.gd fun _ => ?_
  exact Ea.new (tk := w.s.toks + 1 + 1) (fun a o e => Heap.get?_push_of_some _ e) (fun _ => ⟨_, _, _, _, rfl, IsRange.new ..⟩) fun Q E q => call_range_1 q
 ·refine r.t2 (fun l => call (BF.val .range) l) fun x y v v2 r r2 => r.asI (fun v => call (BF.val .range) [v, v2]) fun i t => r2.asI (fun v => call (BF.val .range) [_, v]) fun j t2 => Ev.gd fun _ => ?_
  exact Ea.new (tk := w.s.toks + 1) (fun a o e => Heap.get?_push_of_some _ e) (fun _ => ⟨_, _, _, _, rfl, IsRange.new ..⟩) fun Q E q => call_range_2 q
 ·refine r.t3 (fun l => call (BF.val .range) l) fun x y z v v2 v3 r r2 r3 => r.asI (fun v => call (BF.val .range) [v, v2, v3]) fun i t => r2.asI (fun v => call (BF.val .range) [_, v, v3]) fun j t2 => r3.asI (fun v => call (BF.val .range) [_, _, v]) fun k t3 => Ev.gd fun hz => ?_
  obtain ⟨hz, h4⟩ := and_split hz
  exact Ea.new (tk := w.s.toks) (fun a o e => Heap.get?_push_of_some _ e) (fun _ => ⟨_, _, _, _, rfl, IsRange.new ..⟩) fun Q E q => call_range_3 (eqI_ne h4) q (.inl (pylong_small (smallI_lt (and_split hz).2)))
theorem bf_snd {f : BF} (R : Rm A n) (r : VRs w xs vs) : Ea A b w (call f.val vs) (bfM f xs w.H) := by
 cases f
 case len => exact bf_len r
 case list => exact bf_list R r
 case range => exact bf_range r
 case sum =>
  refine r.t1 (fun l => call (BF.val .sum) l) fun x v r => r.asLI (fun v => call (BF.val .sum) [v]) fun i a ns vs n _ e is => Ev.gd fun _ => Ea.of fun Q E k => ?_
  obtain ⟨ys, ey, hn⟩ := ints_cut is
  refine sum_intListG R.hd (xs := ys) ⟨_, e, rfl, _, by rw [ey]⟩ fun h' tk t' hk => ?_
  rw [preSum_eq, List.take_of_length_le (by rw [List.length_map]; exact Nat.le_refl _), ← hn]
  exact k h' tk _ _ (Post.keep w.S hk) ⟨_, rfl⟩
 case tuple =>
  refine r.t1 (fun l => call (BF.val .tuple) l) fun x v r => r.asL (fun v => call (BF.val .tuple) [v]) fun i a xs vs n _ e r => Ev.gd fun h => Ea.of fun Q E k => ?_
  have l1 := smallL_lt h
  rw [r.length] at l1
  refine call_tuple_list ⟨_, e, rfl, _, rfl⟩ (fun h' hk => ?_) (by rw [List.size_toArray, sizeLine_is]; (first | lia | omega))
  have p : Post w.U b w.ρ none w.s.heap w.ρ w.H h' := Post.keep w.S hk
  have p2 := p.trans (Post.push p.S { cls := .type "tuple", data := .seq vs.toArray })
  exact k _ w.s.toks _ _ p2 ⟨_, _, _, rfl, Heap.get?_push_size _ rfl, p.S.notHid (Nat.le_refl _), p2.vrels w.S Dic.none r⟩
 case sorted =>
  refine r.t1 (fun l => call (BF.val .sorted) l) fun x v r => r.asLI (fun v => call (BF.val .sorted) [v]) fun i a ns vs n _ e is => Ev.gd fun h => Ea.of fun Q E k => ?_
  have l1 : ns.length < 64 := Nat.le_of_ble_eq_true h
  refine sorted_ints ⟨_, e, rfl, _, rfl⟩ is (by have := is.length; (first | lia | omega)) fun out ns' i2 hp hs => ?_
  obtain ⟨_, he⟩ := sortedAll_at w.s.heap vs out
  rw [eq_sortI hp hs] at i2
  exact k _ w.s.toks _ _ (Post.newLst w.S (ints_rel i2) _ (Nat.le_succ _) (fun _ _ => sortedAll_old) he) ⟨_, rfl, w.S.len ▸ app_last⟩
 case divmod =>
  refine r.t2 (fun l => call (BF.val .divmod) l) fun x y v v2 r r2 => r.asI (fun v => call (BF.val .divmod) [v, v2]) fun i t => r2.asI (fun v => call (BF.val .divmod) [_, v]) fun j t2 => Ev.gd fun h => ?_
  have h := (and_split h).2
  exact Ea.tup (vs := [_, _]) (n := 0) ⟨_, _, rfl, VR.int, _, _, rfl, VR.int, rfl⟩ fun Q E q => divmod_int (eqI_ne (and_split h).2) q (.inl (pylong_small (smallI_lt (and_split h).1)))
 case max =>
  refine r.t3 (fun l => call (BF.val .max) l) fun x y z v v2 v3 r r2 r3 => r.asF (fun v => call (BF.val .max) [v, v2, v3]) fun i t z1 => r2.asF (fun v => call (BF.val .max) [_, v, v3]) fun j t2 z2 => r3.asF (fun v => call (BF.val .max) [_, _, v]) fun k t3 z3 => ?_
  exact Ea.of fun Q E k => max3 R.hd z1 z2 z3 fun h' tk tk' hk z => k h' tk _ _ (Post.keep w.S hk) ⟨_, by rw [max_u], z⟩
 case min =>
  refine r.t3 (fun l => call (BF.val .min) l) fun x y z v v2 v3 r r2 r3 => r.asF (fun v => call (BF.val .min) [v, v2, v3]) fun i t z1 => r2.asF (fun v => call (BF.val .min) [_, v, v3]) fun j t2 z2 => r3.asF (fun v => call (BF.val .min) [_, _, v]) fun k t3 z3 => ?_
  exact Ea.of fun Q E k => min3 R.hd z1 z2 z3 fun h' tk tk' hk z => k h' tk _ _ (Post.keep w.S hk) ⟨_, by rw [min_u], z⟩
 case int =>
  refine r.t1 (fun l => call (BF.val .int) l) fun x v r => r.asF (fun v => call (BF.val .int) [v]) fun i t z1 => Ev.ob1 fun k hi => ?_
  obtain ⟨m, e, hd, rfl⟩ := Fl.trunc_u hi
  exact Ea.imm VR.int fun Q E q => call_int_float hd q
 case chr =>
  refine r.t1 (fun l => call (BF.val .chr) l) fun x v r => r.asI (fun v => call (BF.val .chr) [v]) fun i t => Ev.gd fun h => ?_
  exact Ea.imm (VR.str (i := [i.toNat])) fun Q E q => chr_of_range (leI_iff.mp (and_split h).1) (leI_iff.mp (and_split h).2) q
end
end Mine
end
section
open PySem PySem.W PyProof.Rows
open PySem.SeqAt PySem.Builtin PySem.Builtin.Str
namespace Mine
section
variable {A : Around} {b : Nat} {L : Option Addr} {w w' w2 : Ws} {K : Kn} {lo lo' : Lo} {x u y : AV} {xs : List AV} {v v2 va vb : Value} {vs : List Value} {n : Nat}
theorem VRs.take (r : VRs w xs vs) (k : Nat) : VRs w (xs.take k) (vs.take k) := by
 induction k generalizing xs vs with
 | zero => exact rfl
 | succ k ih =>
  cases xs with
  | nil => cases r; exact rfl
  | cons x xs => obtain ⟨v, ws, rfl, a, c⟩ := r; exact ⟨_, _, rfl, a, ih c⟩
theorem VRs.drop (r : VRs w xs vs) (k : Nat) : VRs w (xs.drop k) (vs.drop k) := by
 induction k generalizing xs vs with
 | zero => exact r
 | succ k ih =>
  cases xs with
  | nil => cases r; exact rfl
  | cons x xs => obtain ⟨v, ws, rfl, a, c⟩ := r; exact ih c
theorem VRs.reverse (r : VRs w xs vs) : VRs w xs.reverse vs.reverse := by
 induction xs generalizing vs with
 | nil => cases r; exact rfl
 | cons x xs ih => obtain ⟨v, ws, rfl, a, c⟩ := r; rw [List.reverse_cons, List.reverse_cons]; exact (ih c).append ⟨_, _, rfl, a, rfl⟩
theorem VR.setM {f : List AV → Option (List AV)} (r : VR w u v) (t : Value → Sem Value) (k : ∀ a xs vs n ys, LstAt w.s.heap a vs n → VRs w xs vs → smallL xs = true → f xs = some ys → ∃ ws, VRs w ys ws ∧ ∀ Q E,
  (∀ h' m, (∀ c o, c ≠ a → w.s.heap.get? c = some o → h'.get? c = some o) → LstAt h' a ws m → Q .none { w.s with heap := h' }) → wpAny M0 A (t (.ref a)) Q E w.s) : Ea A b w (t v) (setM b w.H u f) := by
 refine r.asL t fun i a xs vs n ha e r => Ev.gd fun h => Ev.ob1 fun ys q => ?_
 obtain ⟨h1, h2⟩ := and_split h
 obtain ⟨ws, rw', p⟩ := k a xs vs n ys e r h2 q
 exact Op.some fun Q E q => p Q E fun h' m ho he => q (w.next (tk := w.s.toks) (Post.setLst w.S ha (Nat.le_of_ble_eq_true h1) ho he rw') (Nat.le_refl _)) _ (Le.next _ _) ⟨rfl, rfl⟩
theorem upd_list {a : Addr} {ws : List Value} {h : Heap} {n : Nat} {P : Heap → Prop} {g : Array Value → Array Value} (e : LstAt h a vs n) (hg : g vs.toArray = ws.toArray) (k : ∀ h' m, (∀ c o, c ≠ a → h.get? c = some o → h'.get? c = some o) → LstAt h' a ws m → P h') : P (h.update a (Obj.mapSeq g)) :=
 k _ _ (fun c o hc e => (Heap.get?_update_other _ _ (fun q => hc q.symm)).trans e) (by have := IsL.update (n := n) e g; rw [hg] at this; exact this)
theorem joinL_toS (w : List Nat) : ∀ ss : List (List Nat), Str.join (toS w) (ss.map toS) = toS (joinL w ss)
 | [] => rfl
 | [x] => rfl
 | x :: y :: r => by
  show toS x ++ toS w ++ Str.join (toS w) ((y :: r).map toS) = toS (x ++ (w ++ joinL w (y :: r)))
  rw [joinL_toS w (y :: r), toS_append, toS_append, List.append_assoc]
theorem findIx_spec {α : Type} {p : α → Bool} {l : List α} : ∀ {k : Nat}, Op (fun j => ∃ m, j = k + m ∧ ∃ h : m < l.length, p l[m] = true ∧ ∀ i (hi : i < l.length), i < m → p l[i] = false) (findIx p l k) := by
 induction l with
 | nil => exact Op.none
 | cons x r ih =>
  intro k
  refine Op.cnd (fun q => Op.some ⟨0, rfl, Nat.succ_pos _, q, fun i _ hi => absurd hi (Nat.not_lt_zero _)⟩) fun q j e => ?_
  obtain ⟨m, rfl, h1, h2, h3⟩ := ih j e
  refine ⟨m + 1, Nat.add_right_comm .., Nat.succ_lt_succ h1, h2, fun i hi hm => ?_⟩
  cases i with
  | zero => exact q
  | succ i => exact h3 i (Nat.lt_of_succ_lt_succ hi) (Nat.lt_of_succ_lt_succ hm)
noncomputable def MF.T : MF → String
 | .split => "str" | .startswith => "str" | .endswith => "str" | .find => "str" | .join => "str" | .bitLength => "int" | .append => "list" | .reverse => "list" | .insert => "list" | .index => "list"
noncomputable def MF.id : MF → String
 | .split => "str.split" | .startswith => "str.startswith" | .endswith => "str.endswith" | .find => "str.find" | .join => "str.join" | .bitLength => "int.bit_length" | .append => "list.append" | .reverse => "list.reverse" | .insert => "list.insert" | .index => "list.index"
theorem method_facts (f : MF) : PlainAttrs f.T ∧ Slot f.T (Str.ofString f.str) f.id ∧ typeOf (.builtin f.id) = pure (.type "method_descriptor") := by
 cases f
 ·exact ⟨F.plainAttrs_str, F.slot_str_split, F.type_str_split⟩
 ·exact ⟨F.plainAttrs_str, F.slot_str_startswith, F.type_str_startswith⟩
 ·exact ⟨F.plainAttrs_str, F.slot_str_endswith, F.type_str_endswith⟩
 ·exact ⟨F.plainAttrs_str, F.slot_str_find, F.type_str_find⟩
 ·exact ⟨F.plainAttrs_int, F.slot_int_bit_length, F.type_int_bit_length⟩
 ·exact ⟨F.plainAttrs_list, F.slot_list_append, F.type_list_append⟩
 ·exact ⟨F.plainAttrs_list, F.slot_list_reverse, F.type_list_reverse⟩
 ·exact ⟨F.plainAttrs_list, F.slot_list_insert, F.type_list_insert⟩
 ·exact ⟨F.plainAttrs_list, F.slot_list_index, F.type_list_index⟩
 ·exact ⟨F.plainAttrs_str, F.slot_str_join, F.type_str_join⟩
theorem call_split {s : Shared} {E : Value → Shared → Prop} {x y : Str} {t u : Tok} {Q : Value → Shared → Prop} (hy : (y.length == 0) = false)
  (hsz : x.length ≤ sizeLine) (hsz2 : (partsBetween x (occurrences x y 0 x.length (x.length + 1)) y.length).length ≤ sizeLine)
  (hq : ∀ (l : List (Str × Tok)) tk, l.map (·.1) = Txt.split x y → Q (.ref s.heap.objs.size) { s with heap := s.heap.push { cls := .type "list", data := .seq (strValues l).toArray }, toks := tk }) :
  wpAny (M0) A (call (.builtin "str.split") [.str x t, .str y u]) Q E s := by
 cases h1 : (decide (x.length < y.length) || decide (strKind x < strKind y))
 ·cases hf : (occurrences x y 0 x.length (x.length + 1)).isEmpty
  ·refine call_meets F.slot_str_split (typeIs_str _ _ _) F.entry_str_split (F.args_str_split_2 _ _) (meets_str_split_sep x y t u h1 hy hf hsz hsz2) ?_
   show Q _ _
   rw [strsFrom_eq]
   exact hq (numbered s.toks _) _ ((numbered_texts _ _).trans ((if_neg (ne_true_of_eq_false h1)).trans (if_neg (ne_true_of_eq_false hf))).symm)
  ·exact call_meets F.slot_str_split (typeIs_str _ _ _) F.entry_str_split (F.args_str_split_2 _ _) (meets_str_split_not_found x y t u h1 hy hf)
    (hq [(x, t)] s.toks ((if_neg (ne_true_of_eq_false h1)).trans (if_pos hf)).symm)
 ·exact call_meets F.slot_str_split (typeIs_str _ _ _) F.entry_str_split (F.args_str_split_2 _ _) (meets_str_split_cannot_occur x y t u h1)
   (hq [(x, t)] s.toks (if_pos h1).symm)
theorem recv_type {f : MF} (r : VR w u v) : Op (fun _ => w.s.TypeIs v f.T ∧ ∀ a, v = .ref a → ∃ ob, w.s.heap.get? a = some ob ∧ ob.dict = none) (recvM f u w.H) := by
 have hs : Op (fun _ => w.s.TypeIs v "str" ∧ ∀ a, v = .ref a → ∃ ob, w.s.heap.get? a = some ob ∧ ob.dict = none) (isStr u) :=
  r.osS (fun v _ => w.s.TypeIs v "str" ∧ ∀ a, v = .ref a → ∃ ob, w.s.heap.get? a = some ob ∧ ob.dict = none) fun _ _ => Op.some ⟨typeIs_str _ _ _, fun _ q => nomatch q⟩
 have hl : Op (fun _ => w.s.TypeIs v "list" ∧ ∀ a, v = .ref a → ∃ ob, w.s.heap.get? a = some ob ∧ ob.dict = none) (isLst w.H u) :=
  r.osL (fun v _ => w.s.TypeIs v "list" ∧ ∀ a, v = .ref a → ∃ ob, w.s.heap.get? a = some ob ∧ ob.dict = none) fun _ _ _ _ _ _ e _ => Op.some ⟨⟨_, e, rfl⟩, fun _ q => Value.ref.inj q ▸ ⟨_, e, rfl⟩⟩
 cases f with
 | bitLength => exact r.osI (fun v _ => w.s.TypeIs v "int" ∧ ∀ a, v = .ref a → ∃ ob, w.s.heap.get? a = some ob ∧ ob.dict = none) fun _ _ => Op.some ⟨typeIs_int _ _ _, fun _ q => nomatch q⟩
 | split => exact hs
 | startswith => exact hs
 | endswith => exact hs
 | find => exact hs
 | join => exact hs
 | append => exact hl
 | reverse => exact hl
 | insert => exact hl
 | index => exact hl
theorem strs_rel {U : Addr → Prop} {ρ : List Addr} {h : Heap} : ∀ {l : List (Str × Tok)} {ss : List (List Nat)}, l.map (·.1) = ss.map toS → VRels U ρ h (ss.map .str) (strValues l) := by
 intro l
 induction l with
 | nil => intro ss e; cases ss with | nil => exact rfl | cons => cases e
 | cons x l ih =>
  intro ss e
  cases ss with
  | nil => cases e
  | cons y ss =>
   obtain ⟨e1, e2⟩ := List.cons.inj e
   exact ⟨_, _, rfl, ⟨x.2, congrArg (Value.str · x.2) e1⟩, ih e2⟩
theorem starts_toS (x w : List Nat) : Txt.startswith (toS x) (toS w) = pre w x := by
 unfold Txt.startswith
 rw [subAt_toS, toS_length, toS_length, List.drop_zero]
 cases q : pre w x with
 | false => rw [Bool.and_false]
 | true => rw [Bool.and_true]; exact decide_eq_true (by have := pre_length q; (first | lia | omega))
theorem ends_toS (x w : List Nat) : Txt.endswith (toS x) (toS w) = pre w.reverse x.reverse := by
 unfold Txt.endswith
 rw [subAt_toS, toS_length, toS_length, Bool.eq_iff_iff, Bool.and_eq_true, pre_iff, pre_iff, decide_eq_true_eq, List.length_reverse]
 constructor
 ·rintro ⟨h1, h2⟩
  have h3 : x.drop (x.length - w.length) = w := by
   rw [List.take_of_length_le (by rw [List.length_drop]; (first | lia | omega))] at h2; exact h2
  rw [List.take_reverse, h3]
 ·intro h
  rw [List.take_reverse] at h
  have h := List.reverse_inj.mp h
  have hl : w.length ≤ x.length := by
   have := congrArg List.length h
   rw [List.length_drop] at this; (first | lia | omega)
  refine ⟨by (first | lia | omega), ?_⟩
  rw [h, List.take_length]
end
section
variable {A : Around} {b : Nat} {L : Option Addr} {w w' w2 : Ws} {K : Kn} {lo lo' : Lo} {x u y : AV} {xs : List AV} {v v2 va vb : Value} {vs : List Value} {n : Nat}
theorem join_small (w : List Nat) (ss : List (List Nat)) (h : Nat.ble (ss.foldl (fun a x => a + x.length + w.length) 0) 1000000 = true) : JoinOk (toS w) (ss.map toS) = true := by
 unfold JoinOk tooLong
 rw [Bool.not_eq_true']
 apply decide_eq_false
 rw [List.foldl_toArray, List.foldl_map]
 have e : (fun (a : Nat) (x : List Nat) => a + (toS x).length + (toS w).length) = fun a x => a + x.length + w.length := by
  funext a x; rw [toS_length, toS_length]
 rw [e, sizeLine_is]
 have := Nat.le_of_ble_eq_true h
 (first | lia | omega)
theorem index_at {a : Addr} {n : Nat} {s : Shared} {E : Value → Shared → Prop} {x : Value} {e : Value → Bool} {α : Type} {p : α → Bool} {ns : List α} {j : Nat} {Q : Value → Shared → Prop} (hz : smallL ns = true) (he : LstAt s.heap a vs n) (hl : vs.length = ns.length)
  (hg : ∀ y ∈ vs, MeetsSeq.EqGives y x (e y)) (hp : ∀ i (h : i < ns.length) (h' : i < vs.length), e vs[i] = p ns[i]) (hj : findIx p ns 0 = some j) (q : Q (.int (j : Nat) s.toks) { s with toks := s.toks + 1 }) : wpAny M0 A (call (.builtin "list.index") [.ref a, x]) Q E s := by
 have l1 := smallL_lt hz
 obtain ⟨m, rfl, h1, h2, h3⟩ := findIx_spec j hj
 rw [Nat.zero_add] at q
 refine call_meets F.slot_list_index ⟨_, he, rfl⟩ F.entry_list_index (F.args_list_index_2 _ _) (MeetsSeq.list_index a vs.toArray n _ e (fun y hy => hg y (Array.mem_toList_iff.mpr hy)) m (by rw [List.size_toArray, hl]; exact h1) (by (first | lia | omega)) ?_ fun i hi hm => ?_) ⟨he, q⟩
 ·exact (hp m h1 (hl ▸ h1)).trans h2
 ·have hi : i < vs.length := hi
  exact (hp i (hl ▸ hi) hi).trans (h3 i (hl ▸ hi) hm)
theorem ints_at {ns : List Int} (is : IntsAre vs ns) {k : Int} {t : Tok} : (∀ y ∈ vs, MeetsSeq.EqGives y (.int k t) (match y with | .int i _ => i == k | _ => false)) ∧ ∀ i (h : i < ns.length) (h' : i < vs.length), (match vs[i] with | .int i _ => i == k | _ => false) = eqI ns[i] k := by
 induction is with
 | nil => exact ⟨(fun y m => nomatch m), fun i h => absurd h (Nat.not_lt_zero _)⟩
 | cons n t2 _ ih =>
  refine ⟨fun y m => ?_, fun i h h' => ?_⟩
  ·cases m with
   | head => exact MeetsSeq.EqGives.int _ _ _ _
   | tail _ m => exact ih.1 y m
  ·cases i with
   | zero => exact (eqI_eq n k).symm
   | succ i => exact ih.2 i (Nat.lt_of_succ_lt_succ h) (Nat.lt_of_succ_lt_succ h')
theorem strs_at {k : List Nat} {t : Tok} : ∀ {l : List (Str × Tok)} {ns : List (List Nat)}, l.map (·.1) = ns.map toS → (∀ y ∈ strValues l, MeetsSeq.EqGives y (.str (toS k) t) (match y with | .str i _ => i == toS k | _ => false)) ∧
  (strValues l).length = ns.length ∧ ∀ i (h : i < ns.length) (h' : i < (strValues l).length), (match (strValues l)[i] with | .str i _ => i == toS k | _ => false) = eqL ns[i] k := by
 intro l
 induction l with
 | nil => intro ns e; cases ns with | nil => exact ⟨(fun y m => nomatch m), rfl, fun i h => absurd h (Nat.not_lt_zero _)⟩ | cons => cases e
 | cons x l ih =>
  intro ns e
  cases ns with
  | nil => cases e
  | cons y ns =>
   obtain ⟨e1, e2⟩ := List.cons.inj e
   obtain ⟨h1, h2, h3⟩ := ih e2
   refine ⟨fun z m => ?_, congrArg (· + 1) h2, fun i h h' => ?_⟩
   ·cases m with
    | head => exact eqGives_str _ _ _ _
    | tail _ m => exact h1 z m
   ·cases i with
    | zero => exact (congrArg (· == toS k) e1).trans (toS_beq y k)
    | succ i => exact h3 i (Nat.lt_of_succ_lt_succ h) (Nat.lt_of_succ_lt_succ h')
theorem mf_split (ru : VR w u v) (r : VRs w xs vs) : Ea A b w (call (.builtin "str.split") (v :: vs)) (mfM .split u xs b w.H) := by
 refine ru.asS (fun v => call (.builtin "str.split") (v :: vs)) fun x t => r.t1 (fun l => call (.builtin "str.split") (_ :: l)) fun y v r1 => r1.asS (fun v => call (.builtin "str.split") [_, v]) fun y t2 => Ev.gd fun hz => Ea.of fun Q E k => ?_
 obtain ⟨h1, h2⟩ := and_split hz
 obtain ⟨h2, h3⟩ := and_split h2
 obtain ⟨h3, h4⟩ := and_split h3
 have l1 := smallL_lt h1
 have hw : 0 < y.length := by cases y with | nil => cases h3 | cons => exact Nat.succ_pos _
 have hk : Builtin.Str.strKind (toS y) = 1 := by
  unfold Builtin.Str.strKind toS
  rw [if_pos]
  rw [List.all_toArray, List.all_eq_true]
  exact fun c hc => decide_eq_true (Nat.le_of_ble_eq_true (List.all_eq_true.mp h4 c hc))
 have hsp := split_toS x y hw (fun q => absurd q (by
  rw [hk]
  unfold Builtin.Str.strKind
  split
  ·(first | lia | omega)
  ·split <;> (first | lia | omega)))
 refine call_split (by rw [toS_length, beq_eq_false_iff_ne]; (first | lia | omega)) (by rw [toS_length, sizeLine_is]; (first | lia | omega)) (by
  have := StrLaws.occ_length_le (toS x) (toS y) 0 (toS x).length ((toS x).length + 1)
  rw [len_partsBetween, sizeLine_is]
  rw [toS_length] at this ⊢
  (first | lia | omega)) fun l tk hl => ?_
 rw [hsp] at hl
 exact k _ tk _ _ (Post.newLst w.S (strs_rel hl) _ (Nat.le_refl _) (fun a o e => Heap.get?_push_of_some _ e) (Heap.get?_push_size _ rfl)) ⟨_, rfl, w.S.len ▸ app_last⟩
theorem from_is {n : Nat} {i : Int} (h0 : 0 ≤ i) (h1 : i ≤ (n : Int)) : fromIndex n i = i.toNat := by
 unfold fromIndex; rw [if_neg (by (first | lia | omega))]; (first | lia | omega)
theorem mf_find (ru : VR w u v) (r : VRs w xs vs) : Ea A b w (call (.builtin "str.find") (v :: vs)) (mfM .find u xs b w.H) := by
 refine ru.asS (fun v => call (.builtin "str.find") (v :: vs)) fun x t => r.t3 (fun l => call (.builtin "str.find") (_ :: l)) fun _ _ _ v v2 v3 r1 r2 r3 => r1.asS (fun v => call (.builtin "str.find") [_, v, _, _]) fun y t1 =>
  r2.asI (fun v => call (.builtin "str.find") [_, _, v, _]) fun i t2 => r3.asI (fun v => call (.builtin "str.find") [_, _, _, v]) fun j t3 => Ev.gd fun hz => ?_
 obtain ⟨h1, h2⟩ := and_split hz
 obtain ⟨h2, h3⟩ := and_split h2
 obtain ⟨h3, h4⟩ := and_split h3
 rw [leI_iff] at h2 h3 h4
 have l3 := toS_length x
 have g := gives_find_ft (toS x) (toS y) i j t t1 t2 t3 (by rw [l3, from_is (Int.le_trans h2 h3) h4]; (first | lia | omega))
 rw [l3, from_is h2 (Int.le_trans h3 h4), from_is (Int.le_trans h2 h3) h4] at g
 obtain ⟨f1, f2⟩ := find_toS x y (a := i.toNat) (b := j.toNat) (by (first | lia | omega)) (by (first | lia | omega))
 cases hk : findL x y i.toNat j.toNat with
 | some k =>
  obtain ⟨r, e⟩ := f1 k hk
  rw [e] at g
  exact Ea.imm VR.int fun Q E q => call_gives F.slot_str_find (typeIs_str _ _ _) F.entry_str_find (F.args_str_find_4 _ _ _ _) g q
 | none =>
  rw [f2 hk] at g
  exact Ea.imm VR.int fun Q E q => call_gives F.slot_str_find (typeIs_str _ _ _) F.entry_str_find (F.args_str_find_4 _ _ _ _) g q
theorem bitL_is (x : Int) : (bitL x.natAbs : Int) = (Builtin.Int.intBits x : Nat) := by
 unfold bitL Builtin.Int.intBits
 cases q : Nat.beq x.natAbs 0
 ·rw [if_neg (fun e => by rw [beq_iff_eq.mp e] at q; cases q)]; rfl
 ·rw [if_pos (beq_iff_eq.mpr (Int.natAbs_eq_zero.mp (Nat.eq_of_beq_eq_true q)))]; rfl
theorem mf_call {f : MF} (ru : VR w u v) (r : VRs w xs vs) : Ea A b w (call (.builtin f.id) (v :: vs)) (mfM f u xs b w.H) := by
 cases f
 case split => exact mf_split ru r
 case find => exact mf_find ru r
 case startswith =>
  refine ru.asS (fun v => call (.builtin "str.startswith") (v :: vs)) fun x t => r.t1 (fun l => call (.builtin "str.startswith") (_ :: l)) fun y v r1 => r1.asS (fun v => call (.builtin "str.startswith") [_, v]) fun y t2 => ?_
  rw [← starts_toS]
  exact Ea.now VR.bool fun Q E q => SC.startswith q
 case endswith =>
  refine ru.asS (fun v => call (.builtin "str.endswith") (v :: vs)) fun x t => r.t1 (fun l => call (.builtin "str.endswith") (_ :: l)) fun y v r1 => r1.asS (fun v => call (.builtin "str.endswith") [_, v]) fun y t2 => ?_
  rw [← ends_toS]
  exact Ea.now VR.bool fun Q E q => SC.endswith q
 case bitLength =>
  refine ru.asI (fun v => call (.builtin "int.bit_length") (v :: vs)) fun x t => r.t0 (fun l => call (.builtin "int.bit_length") (_ :: l)) (Ev.gd fun hz => ?_)
  rw [bitL_is]
  exact Ea.imm VR.int fun Q E q => call_gives F.slot_int_bit_length (typeIs_int _ _ _) F.entry_int_bit_length (F.args_int_bit_length_1 _) (AutoIntG2.int_bit_length_int_0 x t) q
 case append =>
  refine r.t1 (fun l => call (.builtin "list.append") (v :: l)) fun x v2 r1 => ru.setM (fun v => call (.builtin "list.append") [v, v2]) fun a xs vs n ys e r hz q => ?_
  cases q
  have l1 := smallL_lt hz
  rw [r.length] at l1
  refine ⟨vs ++ [v2], r.append ⟨_, _, rfl, r1, rfl⟩, fun Q E k => call_meets F.slot_list_append ⟨_, e, rfl⟩ F.entry_list_append (F.args_list_append_2 _ _) (list_append a vs.toArray n v2 (by rw [List.size_toArray, sizeLine_is]; (first | lia | omega))) ⟨e, ?_⟩⟩
  exact upd_list (P := fun h => Q .none { w.s with heap := h }) (g := fun xs => xs.push v2) e (List.push_toArray ..) k
 case reverse =>
  refine r.t0 (fun l => call (.builtin "list.reverse") (v :: l)) (ru.setM (fun v => call (.builtin "list.reverse") [v]) fun a xs vs n ys e r hz q => ?_)
  cases q
  have l1 := smallL_lt hz
  rw [r.length] at l1
  refine ⟨vs.reverse, r.reverse, fun Q E k => call_meets F.slot_list_reverse ⟨_, e, rfl⟩ F.entry_list_reverse (F.args_list_reverse_1 _) (AutoSeq1.list_reverse_list_0 a vs.toArray n (by rw [List.size_toArray, sizeLine_is]; (first | lia | omega))) ⟨e, ?_⟩⟩
  exact upd_list (P := fun h => Q .none { w.s with heap := h }) (g := fun xs => xs.reverse) e (List.reverse_toArray ..) k
 case insert =>
  refine r.t2 (fun l => call (.builtin "list.insert") (v :: l)) fun x y v2 v3 r1 r2 => r1.asI (fun v2 => call (.builtin "list.insert") [v, v2, v3]) fun i t => ru.setM (fun v => call (.builtin "list.insert") [v, _, v3]) fun a xs vs n ys e r hz q => ?_
  obtain ⟨h1, q⟩ : (leI 0 i && leI i xs.length) = true ∧ some (xs.take i.toNat ++ y :: xs.drop i.toNat) = some ys := by
   cases h : (leI 0 i && leI i xs.length) with
   | true => rw [h] at q; exact ⟨rfl, q⟩
   | false => rw [h] at q; cases q
  cases q
  obtain ⟨h1, h2⟩ := and_split h1
  rw [leI_iff] at h1 h2
  have l1 := smallL_lt hz
  have l2 := r.length
  refine ⟨vs.take i.toNat ++ v3 :: vs.drop i.toNat, (r.take _).append ⟨_, _, rfl, r2, r.drop _⟩, fun Q E k => call_meets F.slot_list_insert ⟨_, e, rfl⟩ F.entry_list_insert (F.args_list_insert_3 _ _ _) (AutoSeq1.list_insert_list_int_val_1 a vs.toArray n i t v3 (by simp [Builtin.List.listFitsIndex]; (first | lia | omega)) (by rw [List.size_toArray, sizeLine_is]; (first | lia | omega))) ⟨e, ?_⟩⟩
  refine upd_list (P := fun h => Q .none { w.s with heap := h }) e ?_ k
  have : ¬ i < 0 := Int.not_lt.mpr h1
  simp only [this, if_false, List.size_toArray]
  rw [Nat.min_eq_left (by (first | lia | omega))]
  simp
  rw [List.take_of_length_le (by rw [List.length_drop]; exact Nat.le_refl _)]
 case index =>
  refine r.t1 (fun l => call (.builtin "list.index") (v :: l)) fun x v2 r1 => Ev.alt ?_ ?_
  ·refine r1.asI (fun v2 => call (.builtin "list.index") [v, v2]) fun i t => ru.asLI (fun v => call (.builtin "list.index") [v, _]) fun _ a ns vs n _ e is => Ev.gd fun hz => Ev.ob1 fun j hj => ?_
   exact Ea.imm VR.int fun Q E q => index_at hz e is.length (ints_at is).1 (ints_at is (t := t)).2 hj q
  ·refine r1.asS (fun v2 => call (.builtin "list.index") [v, v2]) fun i t => ru.asLS (fun v => call (.builtin "list.index") [v, _]) fun _ a ns vs n _ e is => Ev.gd fun hz => Ev.ob1 fun j hj => ?_
   obtain ⟨h1, h2, h3⟩ := strs_at (k := i) (t := t) is
   exact Ea.imm VR.int fun Q E q => index_at hz e h2 h1 h3 hj q
 case join =>
  refine ru.asS (fun v => call (.builtin "str.join") (v :: vs)) fun x t => r.t1 (fun l => call (.builtin "str.join") (_ :: l)) fun y v r1 => r1.asLS (fun v => call (.builtin "str.join") [_, v]) fun _ a ss l n _ e hl => Ev.gd fun hz => Ea.of fun Q E k => ?_
  refine SC.join (texts := ss.map toS) ⟨_, e, rfl, _, rfl⟩ hl (join_small _ _ hz) fun t' tk => ?_
  rw [show Txt.join (toS x) (ss.map toS) = toS (joinL x ss) from (StrLaws.glued_eq_join _ _).trans (joinL_toS x ss)]
  exact k w.s.heap tk _ _ (Post.refl w.S) ⟨_, rfl⟩
end
end Mine
end
section
open PySem PySem.W PyProof.Rows
open PySem.SeqAt PySem.Builtin
namespace Mine
theorem nm_ne_of {x : Str} (h1 : nmL.all (fun s => !(s == x)) = true) (h2 : 2 < x.length) (k : Nat) : (nm k == x) = false := by
 unfold nm
 split
 ·rename_i s e
  have : s ∈ nmL := by
   rw [nth_getElem] at e
   exact List.mem_of_getElem? e
  have := List.all_eq_true.mp h1 s this
  simpa using this
 ·rw [beq_eq_false_iff_ne]
  intro e
  rw [← e] at h2
  have : (⟨#[0, k]⟩ : Str).length = 2 := rfl
  omega
theorem nm_debug (k : Nat) : (nm k == Str.ofString "__debug__") = false := nm_ne_of (by kernel_rfl) (by decide +kernel) k
theorem nm_classdict (k : Nat) : (nm k == Str.ofString "__classdict__") = false := nm_ne_of (by kernel_rfl) (by decide +kernel) k
section
variable {A : Around} {b : Nat} {L : Option Addr} {w w' w2 : Ws} {K : Kn} {lo lo' : Lo} {x u y : AV} {xs : List AV} {v v2 va vb : Value} {vs : List Value} {n : Nat}
noncomputable def okX (K : Kn) (x : X) : Prop := x.ok C0.P K.kd K.tq = true
noncomputable def okXs (K : Kn) (xs : List X) : Prop := oks C0.P K.kd K.tq xs = true
noncomputable def SndE (n : Nat) (ev : X → Lo → Ce → Nat → St → Option (AV × St)) : Prop := ∀ x K lo w, n ≤ K.n → okX K x → Conf K lo w → Ea K.A K.b w (eval x.toE K.env) (ev x lo K.ce K.b w.H)
noncomputable def SndT (n : Nat) (tv : X → Lo → Ce → Nat → St → Option (Bool × St)) : Prop := ∀ x K lo w, n ≤ K.n → okX K x → Conf K lo w → Eb K.A K.b w (PySem.isTrue x.toE K.env (eval x.toE K.env)) (tv x lo K.ce K.b w.H)
theorem cell_at {i : Nat} {a : Addr} (ha : w.ρ[i]? = some a) : Op (fun x => ∃ v, w.s.heap.IsCell a (some v) ∧ VR w x v) (getCell w.H i) := fun x e => by
 unfold getCell at e
 split at e
 ·rename_i q
  obtain ⟨o, u, g, d, r⟩ := w.S.objs i a _ ha q
  obtain ⟨v, rfl, r2⟩ := r _ rfl
  exact ⟨v, ⟨_, g, d⟩, Option.some.inj e ▸ r2⟩
 ·exact nomatch e
theorem var_load (c : Conf K lo w) {k : Nat} (hv : isV K.kd k = true) : Op (fun x => ∃ val, VR w x val ∧ ∀ (Q E : Value → Shared → Prop), Q val w.s → wpAny M0 A (loadName K.env (nm k)) Q E w.s) (varM k lo K.ce w.H) := by
 unfold varM
 split
 ·rename_i i hi
  intro x h
  obtain ⟨a, ha, hl⟩ := c.cell k i hi
  obtain ⟨v, hv, r⟩ := cell_at ha x h
  exact ⟨v, r, fun Q E q => (K.cl k (K.ceCl k i hi)).elim (fun hk => wpAny_loadName_cell K.kind hk hl hv q) fun hk => wpAny_loadName_free K.kind hk hl hv q (nm_classdict k)⟩
 ·rename_i hi
  intro x h
  have hl : isLoc K.kd k = true := (Bool.or_eq_true_iff.mp hv).elim id fun hv => by
   obtain ⟨i, e⟩ := K.cov k hv
   exact nomatch hi.symm.trans e
  obtain ⟨mm, hn, hr⟩ := c.F
  obtain ⟨val, e, r⟩ := hr k x h
  exact ⟨val, r, fun Q E q => wpAny_loadName_local K.kind (K.loc k hl) (by rw [K.eL]; exact hn) e q⟩
theorem glb_load (ok : Ok0) {k : Nat} {val : Value} (hg : isG K.kd k = true) (h : C0.mg (nm k) = some val ∨ (C0.mg (nm k) = none ∧ C0.mb (nm k) = some val)) (Q E : Value → Shared → Prop) (q : Q val w.s) : wpAny M0 A (loadName K.env (nm k)) Q E w.s := by
 rw [loadName_read K.kind (K.glb k hg)]
 have n1 : w.s.heap.Ns K.env.globals C0.mg := by rw [K.globals]; exact ns_at ok.g fun o e => w.S.base _ _ e
 have n2 : w.s.heap.Ns K.env.builtins C0.mb := by rw [K.builtins]; exact ns_at ok.b fun o e => w.S.base _ _ e
 exact h.elim (fun h => Calls.loadGlobal_global n1 h q) fun h => Calls.loadGlobal_builtin n1 h.1 n2 h.2 q
theorem cst_snd {cc : Const} {a : AC} {k : Nat} {p : Pos} {env : Env} (h : AC.okC cc a = true) : Ea A b w (eval (.Constant cc k p) env) (some (a.av, w.H)) := by
 cases of_decide_eq_true h
 cases a with
 | none => exact Ea.now (val := .none) rfl fun Q E q => wpAny_pure q
 | bool c => exact Ea.now VR.bool fun Q E q => wpAny_pure q
 | int i => exact Ea.imm VR.int fun Q E q => wpAny_mkInt q
 | flt i => exact Ea.imm (VR.flt rfl) fun Q E q => wpAny_mkFloat q
 | str l => exact Ea.imm VR.str fun Q E q => wpAny_mkText q
theorem star_args (env : Env) : ∀ xs : List X, oks C0.P K.kd K.tq xs = true → starEach (toEs xs) env = xs.map fun x => (false, eval x.toE env)
 | [], _ => rfl
 | x :: r, h => by
  obtain ⟨h1, h2⟩ := and_split h
  have := star_args env r h2
  cases x <;> first | exact congrArg (_ :: ·) this | cases h1
theorem back_args (env : Env) (pos : Pos) (xs : List X) (h : oks C0.P K.kd K.tq xs = true) : backTo pos (starEach (toEs xs) env) = xs.map fun x => (false, eval x.toE env) := by
 rw [star_args env xs h]
 unfold backTo
 rw [List.map_map]
 rfl
variable {ev : X → Lo → Ce → Nat → St → Option (AV × St)} {tv : X → Lo → Ce → Nat → St → Option (Bool × St)}
theorem args_snd (I : SndE n ev) (hn : n ≤ K.n) : ∀ {ys : List X} {w : Ws}, okXs K ys → Conf K lo w → Ev K.b none (Pr VRs) w (wq K.A (spliced (ys.map fun x => (false, eval x.toE K.env))) w) (evs (fun x H => ev x lo K.ce K.b H) ys w.H) := by
 intro ys
 induction ys with
 | nil => exact fun _ c => Op.some fun Q E q => Calls.spliced_nil (q _ [] Le.refl ⟨rfl, rfl⟩)
 | cons x r ih =>
  exact fun ho c => Ev.bind (I x K lo _ hn (and_split ho).1 c) (fun Q E h => Calls.spliced_cons h) fun w1 v val l1 r1 => Ev.bd (ih (and_split ho).2 (c.up l1)) fun w2 vs vals l2 r2 =>
   Op.some fun Q E q => q w2 (val :: vals) Le.refl ⟨rfl, _, _, rfl, r1.up l2, r2⟩
theorem evalArgs_list {f : Value} {ys : List X} (Q : Args → Shared → Prop) (E : Value → Shared → Prop) (k : wpAny M0 A (spliced (ys.map fun x => (false, eval x.toE K.env))) (fun vals s => Q ⟨vals, []⟩ s) E w.s) :
  wpAny M0 A (evalArgs f true (ys.map fun x => (false, eval x.toE K.env)) []) Q E w.s := by
 cases ys with
 | nil =>
  unfold evalArgs
  refine wpAny_bind (wpAny_bind (wpAny_mono k (fun vals s' hq => ?_) fun _ _ e => e))
  exact wpAny_pure (wpAny_holding (wpAny_bind (wpAny_pure (wpAny_bind (wpAny_pure (wpAny_pure hq))))))
 | cons x r => exact Calls.evalArgs_plain k
theorem any_plain {ys : List X} {env : Env} : ((ys.map fun x => ((false, eval x.toE env) : Bool × Sem Value)).any fun x => x.1) = false := by
 rw [List.any_map, List.any_eq_false]
 exact fun _ _ => Bool.false_ne_true
theorem bf_bl (ok : Ok0) (f : BF) : C0.mg (nm f.ix) = none ∧ C0.mb (nm f.ix) = some f.val := by
 refine ok.bl f.ix f.val ?_
 cases f <;> (repeat (first | exact .head _ | apply List.Mem.tail))
theorem bf_kind (f : BF) : (∃ id, f.val = .builtin id) ∨ ∃ T, f.val = .type T := by
 cases f <;> first | exact .inl ⟨_, rfl⟩ | exact .inr ⟨_, rfl⟩
theorem bcall_snd (ok : Ok0) (I : SndE n ev) (hn : n ≤ K.n) {f : BF} {ys : List X} {np p : Pos} (ho : okXs K ys) (hg : isG K.kd f.ix = true) (c : Conf K lo w) :
  Ea K.A K.b w (eval (X.bcall f ys np p).toE K.env) (ob2 (evs (fun x H => ev x lo K.ce K.b H) ys w.H) fun vs H => bfM f vs H) := by
 refine Ev.bind (args_snd I hn ho c) (G := fun vs s Q E => wpAny M0 K.A (call f.val vs) Q E s) (fun Q E h => ?_) fun w1 vs vals l1 r1 => bf_snd K.R r1
 show wpAny _ _ (do callWith p (← eval (.Name (nm f.ix) np) K.env) [] (backTo p (starEach (toEs ys) K.env)) (backToKw p (keywordEach [] K.env))) Q E w.s
 rw [back_args K.env p ys ho]
 refine wpAny_bind (wpAny_Name (glb_load ok hg (.inr (bf_bl ok f)) _ E ?_) (nm_debug _))
 have fin := evalArgs_list (w := w) (f := f.val) (fun a s => wpAny M0 K.A (call f.val ([] ++ a.pos) a.kw) Q E s) E h
 rcases bf_kind f with ⟨id, e⟩ | ⟨T, e⟩
 ·rw [e] at fin ⊢
  exact Calls.callWith_builtin any_plain fin
 ·rw [e] at fin ⊢
  exact PySem.callWith_type any_plain fin
theorem toEs_length : ∀ l : List X, (toEs l).length = l.length := fun l => by
 induction l with
 | nil => rfl
 | cons x r ih => exact congrArg (· + 1) ih
theorem mcall_snd (I : SndE n ev) (hn : n ≤ K.n) {m : MF} {o : X} {ys : List X} {ap p : Pos} (ho : okX K o) (ha : okXs K ys) (hlen : ys.length < 20) (hline : (ap.endLine == p.line) = true) (hshape : ∀ (a : Str) (w : Sem Value), attributeBase o.toE a K.env w = w)
  (c : Conf K lo w) : Ea K.A K.b w (eval (X.mcall m o ys ap p).toE K.env) (ob2 (ev o lo K.ce K.b w.H) fun u H => ob1 (recvM m u H) fun _ => ob2 (evs (fun x H => ev x lo K.ce K.b H) ys H) fun vs H => mfM m u vs K.b H) := by
 refine Ev.bind (I o K lo w hn ho c) (G := fun v s Q E => MethodOnS C0.prog C0.w K.A E (Str.ofString m.str) v p (ys.map fun x => (false, eval x.toE K.env)) Q s) (fun Q E h => ?_) fun w1 u val l1 r1 => Ev.ob1 fun _ q => ?_
 ·show wpAny _ _ (eval (.Call (.Attribute o.toE (Str.ofString m.str) ap) (toEs ys) [] p) K.env) Q E w.s
  refine wpAny_Call_method_lateS (hshape _ _) ?_ hline ?_
  ·rw [back_args K.env p ys ha, Bool.and_eq_true, Bool.and_eq_true]
   refine ⟨⟨?_, rfl⟩, decide_eq_true ?_⟩
   ·rw [List.all_map, List.all_eq_true]; exact fun _ _ => rfl
   ·show (toEs ys).length + 0 + 0 < 30; rw [toEs_length]; (first | lia | omega)
  ·rw [back_args K.env p ys ha]
   exact h
 ·obtain ⟨f1, f2, f3⟩ := method_facts m
  obtain ⟨t1, t2⟩ := recv_type r1 _ q
  exact Ev.bind (args_snd I hn ha (c.up l1)) (fun Q E h => ⟨m.T, m.id, f1, f2, f3, t1, t2, Calls.callWith_builtin any_plain (evalArgs_list _ E h)⟩) fun w2 vs vals l2 r2 => mf_call (r1.up l2) r2
theorem behind_ok (op : CmpOp) {x : X} (h : okX K x) : behindInMarks op x.toE = false := by
 cases x <;> first | rfl | cases h
theorem e_bin (I : SndE n ev) (hn : n ≤ K.n) {l r : X} {op : Operator} {p : Pos} (h1 : okX K l) (h2 : okX K r) (c : Conf K lo w) : Ea K.A K.b w (eval (X.bin l op r p).toE K.env) (ob2 (ev l lo K.ce K.b w.H) fun u H => ob2 (ev r lo K.ce K.b H) fun v H => binM op u v H) :=
 Ev.bind (I l K lo w hn h1 c) (fun Q E h => wpAny_BinOp h) fun w1 u va l1 r1 => Ev.bd (I r K lo w1 hn h2 (c.up l1)) fun w2 v vb l2 r2 => binRest K.R (r1.up l2) r2
theorem e_un (I : SndE n ev) (hn : n ≤ K.n) {x : X} {op : UnaryOp} {p : Pos} (h1 : okX K x) (c : Conf K lo w) : Ea K.A K.b w (eval (X.un op x p).toE K.env) (ob2 (ev x lo K.ce K.b w.H) fun v H => ob1 (unM op v H) fun v => some (v, H)) :=
 Ev.bind (I x K lo w hn h1 c) (fun Q E h => wpAny_UnaryOp h) fun w1 u va l1 r1 => Ev.b1 (un_snd r1) (fun Q E h => h) fun w2 v vb l2 e r2 => Ea.ret e r2
theorem cmp_two (ok : Ok0) (I : SndE n ev) (hn : n + 1 ≤ K.n) {l r : X} {op : CmpOp} (h1 : okX K l) (h2 : okX K r) (c : Conf K lo w) {γ β : Type} {R2 : Ws → γ → β → Prop} {f : Bool → St → Option γ} {G : Value → Shared → (β → Shared → Prop) → (Value → Shared → Prop) → Prop}
  (k : ∀ w' t, Le K.b none w w' → Ev K.b none R2 w' (G (.bool t) w'.s) (f t w'.H)) : Ev K.b none R2 w (fun Q E => wpAny M0 K.A (eval l.toE K.env) (fun a s₁ => wpAny M0 K.A (eval r.toE K.env) (fun b s₂ => wpAny M0 K.A (compareOp op a b) (fun v s => G v s Q E) E s₂) E s₁) E w.s)
   (ob2 (ev l lo K.ce K.b w.H) fun u H => ob2 (ev r lo K.ce K.b H) fun v H => ob1 (cmpM op u v H) fun t => f t H) :=
 Ev.bd (I l K lo w (Nat.le_of_lt hn) h1 c) fun w1 u va l1 r1 => Ev.bd (I r K lo w1 (Nat.le_of_lt hn) h2 (c.up l1)) fun w2 v vb l2 r2 => Ev.b1 (cmp_snd ok (K.R.le hn) (r1.up l2) r2) (fun Q E h => h) fun w3 t d l3 e q => by
  cases q
  rw [← e]
  exact k w3 t (l1.trans (l2.trans l3))
theorem e_cmp (ok : Ok0) (I : SndE n ev) (hn : n + 1 ≤ K.n) {l r : X} {op : CmpOp} {p : Pos} (h1 : okX K l) (h2 : okX K r) (c : Conf K lo w) : Ea K.A K.b w (eval (X.cmp l op r p).toE K.env) (ob2 (ev l lo K.ce K.b w.H) fun u H => ob2 (ev r lo K.ce K.b H) fun v H => ob1 (cmpM op u v H) fun t => some (.bool t, H)) :=
 Ev.to (cmp_two ok I hn h1 h2 c fun w' t l => Ea.ret rfl VR.bool) fun Q E h => wpAny_Compare1 h (behind_ok op h2)
theorem t_cmp (ok : Ok0) (I : SndE n ev) (hn : n + 1 ≤ K.n) {l r : X} {op : CmpOp} {p : Pos} {whole : Sem Value} (h1 : okX K l) (h2 : okX K r) (c : Conf K lo w) : Eb K.A K.b w (PySem.isTrue (X.cmp l op r p).toE K.env whole) (ob2 (ev l lo K.ce K.b w.H) fun u H => ob2 (ev r lo K.ce K.b H) fun v H => ob1 (cmpM op u v H) fun t => some (t, H)) :=
 Ev.to (cmp_two ok I hn h1 h2 c (G := fun v s Q E => wpAny M0 K.A (truthy v) Q E s) fun w' t l => Op.some fun Q E q => wpAny_truthy_bool (q w' t Le.refl ⟨rfl, rfl⟩)) fun Q E h => wpAny_isTrue_Compare1 h (behind_ok op h2)
end
section
variable {A : Around} {b : Nat} {L : Option Addr} {w w' w2 : Ws} {K : Kn} {lo lo' : Lo} {x u y : AV} {xs : List AV} {v v2 va vb : Value} {vs : List Value} {n : Nat}
variable {ev : X → Lo → Ce → Nat → St → Option (AV × St)} {tv : X → Lo → Ce → Nat → St → Option (Bool × St)}
theorem last_ok (op op2 : CmpOp) {m r : X} (h : okX K r) : lastMarks [op, op2] [m.toE, r.toE] = false := behind_ok op2 h
theorem e_cmp2 (ok : Ok0) (I : SndE n ev) (hn : n + 1 ≤ K.n) {l m r : X} {op op2 : CmpOp} {p : Pos} (h1 : okX K l) (h2 : okX K m) (h3 : okX K r) (c : Conf K lo w) : Ea K.A K.b w (eval (X.cmp2 l op m op2 r p).toE K.env)
  (ob2 (ev l lo K.ce K.b w.H) fun u H => ob2 (ev m lo K.ce K.b H) fun v H => ob1 (cmpM op u v H) fun t => cond t (ob2 (ev r lo K.ce K.b H) fun w H => ob1 (cmpM op2 v w H) fun t => some (.bool t, H)) (some (.bool false, H))) :=
 Ev.bind (I l K lo w (Nat.le_of_lt hn) h1 c) (fun Q E h => Compare_chain (rs := []) (ops := []) h (last_ok op op2 h3)) fun w1 u va l1 r1 => Ev.bind (I m K lo w1 (Nat.le_of_lt hn) h2 (c.up l1)) (fun Q E h => chain_link h) fun w2 v vb l2 r2 =>
  Ev.b1 (cmp_snd ok (K.R.le hn) (r1.up l2) r2) (fun Q E h => h) fun w3 t d l3 e q => by
   cases q
   rw [← e]
   cases t with
   | false => exact Ev.to (Ea.ret rfl VR.bool) fun Q E h => wpAny_truthy_bool h
   | true =>
    exact Ev.bind (I r K lo w3 (Nat.le_of_lt hn) h3 (c.up (l1.trans (l2.trans l3)))) (fun Q E h => wpAny_truthy_bool (chain_last h)) fun w4 x vd l4 r4 => Ev.b1 (cmp_snd ok (K.R.le hn) (r2.up (l3.trans l4)) r4) (fun Q E h => h) fun w5 t d l5 e q => Ea.ret e q
theorem t_cmp2 (ok : Ok0) (I : SndE n ev) (hn : n + 1 ≤ K.n) {l m r : X} {op op2 : CmpOp} {p : Pos} {whole : Sem Value} (h1 : okX K l) (h2 : okX K m) (h3 : okX K r) (c : Conf K lo w) : Eb K.A K.b w (PySem.isTrue (X.cmp2 l op m op2 r p).toE K.env whole)
  (ob2 (ev l lo K.ce K.b w.H) fun u H => ob2 (ev m lo K.ce K.b H) fun v H => ob1 (cmpM op u v H) fun t => cond t (ob2 (ev r lo K.ce K.b H) fun w H => ob1 (cmpM op2 v w H) fun t => some (t, H)) (some (false, H))) :=
 Ev.bind (I l K lo w (Nat.le_of_lt hn) h1 c) (fun Q E h => isTrue_chain (rs := []) (ops := []) h (last_ok op op2 h3)) fun w1 u va l1 r1 => Ev.bind (I m K lo w1 (Nat.le_of_lt hn) h2 (c.up l1)) (fun Q E h => test_link h) fun w2 v vb l2 r2 =>
  Ev.b1 (cmp_snd ok (K.R.le hn) (r1.up l2) r2) (fun Q E h => h) fun w3 t d l3 e q => by
   cases q
   rw [← e]
   cases t with
   | false => exact Ev.to (Eb.ret rfl rfl) fun Q E h => wpAny_truthy_bool h
   | true =>
    exact Ev.bind (I r K lo w3 (Nat.le_of_lt hn) h3 (c.up (l1.trans (l2.trans l3)))) (fun Q E h => wpAny_truthy_bool (test_last h)) fun w4 x vd l4 r4 => Ev.b1 (cmp_snd ok (K.R.le hn) (r2.up (l3.trans l4)) r4) (fun Q E h => h) fun w5 t d l5 e q =>
     Op.some fun Q E k => by cases q; exact wpAny_truthy_bool (k w5 t Le.refl ⟨e, rfl⟩)
theorem e_ite (I : SndE n ev) (J : SndT n tv) (hn : n ≤ K.n) {x t e : X} {p : Pos} (h1 : okX K x) (h2 : okX K t) (h3 : okX K e) (c : Conf K lo w) : Ea K.A K.b w (eval (X.ite x t e p).toE K.env) (obB (tv x lo K.ce K.b w.H) (fun H => ev t lo K.ce K.b H) fun H => ev e lo K.ce K.b H) :=
 Ev.bB (J x K lo w hn h1 c) (fun Q E h => wpAny_IfExp h) (fun w' l => I t K lo w' hn h2 (c.up l)) fun w' l => I e K lo w' hn h3 (c.up l)
theorem e_tupl (I : SndE n ev) (hn : n ≤ K.n) {ys : List X} {p : Pos} (h1 : okXs K ys) (c : Conf K lo w) : Ea K.A K.b w (eval (X.tupl ys p).toE K.env) (ob2 (evs (fun x H => ev x lo K.ce K.b H) ys w.H) fun vs H => gd (smallL vs) <| some (.tup vs, H)) :=
 Ev.bind (args_snd I hn h1 c) (fun Q E h => wpAny_Tuple_spliced (by rw [back_args K.env p ys h1]; exact h)) fun w1 vs vals l1 r1 => Ev.gd fun hz => Et.tup r1 fun Q E q => by exact ⟨by rw [← r1.length, sizeLine_is]; have := smallL_lt hz; (first | lia | omega), q⟩
theorem e_list (I : SndE n ev) (hn : n ≤ K.n) {ys : List X} {p : Pos} (h1 : okXs K ys) (c : Conf K lo w) : Ea K.A K.b w (eval (X.list ys p).toE K.env) (ob2 (evs (fun x H => ev x lo K.ce K.b H) ys w.H) fun vs H => gd (smallL vs) <| newL H vs) :=
 Ev.bind (args_snd I hn h1 c) (fun Q E h => wpAny_List_spliced (by rw [back_args K.env p ys h1]; exact h)) fun w1 vs vals l1 r1 => Ev.gd fun hz => Et.lst r1 fun Q E q => by exact ⟨by rw [← r1.length, sizeLine_is]; have := smallL_lt hz; (first | lia | omega), q⟩
theorem e_idx (I : SndE n ev) (hn : n ≤ K.n) {o i : X} {p : Pos} (h1 : okX K o) (h2 : okX K i) (c : Conf K lo w) : Ea K.A K.b w (eval (X.idx o i p).toE K.env) (ob2 (ev o lo K.ce K.b w.H) fun u H => ob2 (ev i lo K.ce K.b H) fun v H => ob1 (idxM u v H) fun v => some (v, H)) :=
 Ev.bind (I o K lo w hn h1 c) (fun Q E h => subscript_any h) fun w1 u va l1 r1 => Ev.bd (I i K lo w1 hn h2 (c.up l1)) fun w2 v vb l2 r2 => Ev.m1 (idx_snd (r1.up l2) r2)
noncomputable def PtR (_ : Ws) (o : Option Int) (v : Value) : Prop := IsPart v o
noncomputable def okO (K : Kn) (o : Xo) : Prop := o.ok C0.P K.kd K.tq = true
theorem part_snd (I : SndE n ev) (hn : n ≤ K.n) {o : Xo} (h1 : okO K o) (c : Conf K lo w) : Ev K.b none (Pr PtR) w (wq K.A (evalPart o.toE K.env) w) (evo (fun x H => ev x lo K.ce K.b H) o w.H) := by
 cases o with
 | no =>
  refine Op.some fun Q E q => ?_
  show wpAny _ _ (evalPart none K.env) Q E w.s
  rw [evalPart_none]
  exact wpAny_pure (q w .none Le.refl ⟨rfl, .none⟩)
 | so x =>
  refine Ev.bind (G := fun v s Q E => Q v s) (I x K lo w hn h1 c) (fun Q E h => ?_) fun w1 v val l1 r1 => r1.osI (fun v => EvP K.b none (Pr PtR) w1 (fun Q E => Q v w1.s)) fun i t => Op.gd fun _ => Op.some fun Q E q => q w1 _ Le.refl ⟨rfl, .int _ _⟩
  show wpAny _ _ (evalPart (some x.toE) K.env) Q E w.s
  rw [evalPart_some]
  exact h
theorem e_slc (I : SndE n ev) (hn : n ≤ K.n) {o : X} {l u st : Xo} {sp p : Pos} (h1 : okX K o) (h2 : okO K l) (h3 : okO K u) (h4 : okO K st) (c : Conf K lo w) : Ea K.A K.b w (eval (X.slc o l u st sp p).toE K.env)
  (ob2 (ev o lo K.ce K.b w.H) fun a H => ob2 (evo (fun x H => ev x lo K.ce K.b H) l H) fun l H => ob2 (evo (fun x H => ev x lo K.ce K.b H) u H) fun h H => ob2 (evo (fun x H => ev x lo K.ce K.b H) st H) fun s H => slcM a l h s H) :=
 Ev.bind (I o K lo w hn h1 c) (fun Q E h => subscript_any h) fun w1 a va l1 r1 => Ev.bind (part_snd I hn h2 (c.up l1)) (fun Q E h => wpAny_Slice h) fun w2 x vx l2 p1 => Ev.bd (part_snd I hn h3 (c.up (l1.trans l2))) fun w3 y vy l3 p2 =>
  Ev.bd (part_snd I hn h4 (c.up (l1.trans (l2.trans l3)))) fun w4 z vz l4 p3 => by
   have l5 := Le.next (w := w4) (b := K.b) (L := none) (Post.push w4.S { cls := .type "slice", data := .fields #[vx, vy, vz] }) (Nat.le_refl w4.s.toks)
   exact Ev.later l5 (slc_snd (r1.up (l2.trans (l3.trans (l4.trans l5)))) ⟨_, _, _, Heap.IsSliceOf.new _ _ _ _, p1, p2, p3⟩)
theorem evalEach_toEs (env : Env) : ∀ xs : List X, evalEach (toEs xs) env = xs.map fun x => eval x.toE env
 | [] => rfl
 | x :: r => by
  show eval x.toE env :: evalEach (toEs r) env = _
  rw [evalEach_toEs env r]; rfl
noncomputable def stopOf (op : BoolOp) : Bool := match op with
 | .And => false
 | .Or => true
theorem bop_snd (I : SndE n ev) (hn : n ≤ K.n) (op : BoolOp) (p : Pos) : ∀ (ys : List X) (w : Ws), okXs K ys → Conf K lo w → Ea K.A K.b w (boolOp p op (evalEach (toEs ys) K.env)) (bopV (fun x H => ev x lo K.ce K.b H) (stopOf op) ys w.H)
 | [], _, _, _ => Ev.none
 | [x], w, h1, c => I x K lo w hn (and_split h1).1 c
 | x :: y :: r, w, h1, c => by
  refine Ev.bind (I x K lo w hn (and_split h1).1 c) (fun Q E h => wpAny_bind h) fun w1 u va l1 r1 => Ev.b1 (truth_snd r1) (fun Q E h => wpAny_bind (wpAny_standAt (wpAny_bind (wpAny_holding h)))) fun w2 t d l2 e q => ?_
  cases q
  have more : Ea K.A K.b w2 (boolOp p op (evalEach (toEs (y :: r)) K.env)) (bopV (fun x H => ev x lo K.ce K.b H) (stopOf op) (y :: r) w1.H) := e ▸ bop_snd I hn op p (y :: r) w2 (and_split h1).2 (c.up (l1.trans l2))
  have here : Ea K.A K.b w2 (pure va) (some (u, w1.H)) := Ev.to (Ea.ret e (r1.up l2)) fun Q E h => wpAny_pure h
  cases op <;> cases t
  ·exact here
  ·exact more
  ·exact more
  ·exact here
theorem all_snd (J : SndT n tv) (hn : n ≤ K.n) (op : BoolOp) : ∀ (ys : List X) (w : Ws), okXs K ys → Conf K lo w → Eb K.A K.b w (allTrue op (toEs ys) K.env) (allT (fun x H => tv x lo K.ce K.b H) (stopOf op) ys w.H)
 | [], w, _, _ => by
  refine Op.some fun Q E q => ?_
  cases op
  ·exact wpAny_allTrue_And_nil (q w _ Le.refl ⟨rfl, rfl⟩)
  ·exact wpAny_allTrue_Or_nil (q w _ Le.refl ⟨rfl, rfl⟩)
 | x :: r, w, h1, c => by
  cases op
  ·refine Ev.bind (J x K lo w hn (and_split h1).1 c) (fun Q E h => wpAny_allTrue_And_cons h) fun w1 t d l1 q => ?_
   cases q
   cases t
   ·exact Eb.ret rfl rfl
   ·exact all_snd J hn .And r w1 (and_split h1).2 (c.up l1)
  ·refine Ev.bind (J x K lo w hn (and_split h1).1 c) (fun Q E h => wpAny_allTrue_Or_cons h) fun w1 t d l1 q => ?_
   cases q
   cases t
   ·exact all_snd J hn .Or r w1 (and_split h1).2 (c.up l1)
   ·exact Eb.ret rfl rfl
end
noncomputable def nodupS : List Str → Bool
 | [] => true
 | x :: r => (!r.any fun y => y == x) && nodupS r
theorem nmL_nodup : nodupS nmL = true := by decide +kernel
theorem nodupS_inj : ∀ {l : List Str}, nodupS l = true → ∀ {i j : Nat} {s : Str}, nth l i = some s → nth l j = some s → i = j
 | x :: r, h, i, j, s, e1, e2 => by
  unfold nodupS at h
  obtain ⟨h1, h2⟩ := and_split h
  have out : ∀ {k : Nat}, nth r k = some x → False := fun {k} e => by
   have hm : x ∈ r := by rw [nth_getElem] at e; exact List.mem_of_getElem? e
   have : r.any (fun y => y == x) = true := List.any_eq_true.mpr ⟨x, hm, beq_self_eq_true x⟩
   rw [this] at h1; cases h1
  cases i with
  | zero =>
   cases j with
   | zero => rfl
   | succ j =>
    obtain rfl := sI1 e1
    exact (out e2).elim
  | succ i =>
   cases j with
   | zero => cases e2; exact (out e1).elim
   | succ j => rw [nodupS_inj h2 (i := i) (j := j) e1 e2]
theorem nmL_long : nmL.all (fun s => !(s.cps[0]? == some 0)) = true := by decide +kernel
theorem nm_inj {i j : Nat} (h : nm i = nm j) : i = j := by
 have no0 : ∀ {k : Nat} {s : Str}, nth nmL k = some s → s.cps[0]? ≠ some 0 := fun {k s} e q => by
  have hm : s ∈ nmL := by rw [nth_getElem] at e; exact List.mem_of_getElem? e
  have := List.all_eq_true.mp nmL_long s hm
  rw [q] at this
  revert this; decide
 unfold nm at h
 cases e1 : nth nmL i with
 | some s =>
  rw [e1] at h
  cases e2 : nth nmL j with
  | some t =>
   rw [e2] at h
   have h : s = t := h
   subst h
   exact nodupS_inj nmL_nodup e1 e2
  | none =>
   rw [e2] at h
   have h : s = ⟨#[0, j]⟩ := h
   exact absurd (by rw [h]; rfl) (no0 e1)
 | none =>
  rw [e1] at h
  cases e2 : nth nmL j with
  | some t =>
   rw [e2] at h
   have h : ⟨#[0, i]⟩ = t := h
   exact absurd (by rw [← h]; rfl) (no0 e2)
  | none =>
   rw [e2] at h
   have h : (⟨#[0, i]⟩ : Str) = ⟨#[0, j]⟩ := h
   injection h with h
   have := congrArg Array.toList h
   simpa using this
section
variable {A : Around} {b : Nat} {L : Option Addr} {w w' w2 : Ws} {K : Kn} {lo lo' : Lo} {x u y : AV} {xs : List AV} {v v2 va vb : Value} {vs : List Value} {n : Nat}
theorem lkp_setL (k j : Nat) (v : AV) : ∀ lo : Lo, lkp j (setL k v lo) = if j = k then some v else lkp j lo
 | [] => by
  unfold setL lkp
  by_cases e : j = k
  ·subst e; rw [Nat.beq_refl, if_pos rfl]
  ·have : Nat.beq k j = false := by cases q : Nat.beq k j with | false => rfl | true => exact absurd (Nat.eq_of_beq_eq_true q).symm e
   rw [this, if_neg e]; rfl
 | (i, w) :: r => by
  unfold setL
  split
  ·rename_i q
   have q := Nat.eq_of_beq_eq_true q
   subst q
   unfold lkp
   by_cases e : j = i
   ·subst e; rw [Nat.beq_refl, if_pos rfl]
   ·have : Nat.beq i j = false := by cases q : Nat.beq i j with | false => rfl | true => exact absurd (Nat.eq_of_beq_eq_true q).symm e
    rw [this, if_neg e]
  ·rename_i q
   have ih := lkp_setL k j v r
   unfold lkp
   by_cases e : i = j
   ·subst e
    have : i ≠ k := Nat.ne_of_beq_eq_false q
    rw [Nat.beq_refl, if_neg this]
   ·have : Nat.beq i j = false := by cases q : Nat.beq i j with | false => rfl | true => exact absurd (Nat.eq_of_beq_eq_true q) e
    rw [this, ih]
theorem isLoc_notCl {kd : List (Nat × K3)} {k : Nat} (h : isLoc kd k = true) : isCl kd k = false := by
 unfold isLoc at h; unfold isCl
 split at h
 ·rename_i e; rw [e]
 ·cases h
theorem isCe_cl {kd : List (Nat × K3)} {k : Nat} (h : isCe kd k = true) : isCl kd k = true := by
 unfold isCe at h; unfold isCl
 split at h
 ·rename_i e; rw [e]
 ·cases h
noncomputable def FrL (K : Kn) (w : Ws) (lo : Lo) (_ : Unit) : Prop := FrR w.U w.ρ w.s.heap K.L lo
noncomputable def okS (K : Kn) (k : Nat) : Prop := stok K.kd k = true
theorem store_snd (c : Conf K lo w) {k : Nat} (hk : okS K k) (r : VR w x v) : Ev K.b (some K.L) (Pr (FrL K)) w (wq A (storeName K.env (nm k) v) w) (storeM k x lo K.ce K.b w.H) := by
 have hs := Bool.or_eq_true_iff.mp hk
 unfold storeM
 split
 ·rename_i i hi
  refine Op.ob1 fun o hc => Op.gd fun h => Op.some fun Q E kont => ?_
  obtain ⟨hb, ho⟩ := and_split h
  obtain ⟨a, ha, hl⟩ := c.cell k i hi
  have hce : isCe K.kd k = true := hs.elim (fun h => nomatch (K.ceCl k i hi).symm.trans (isLoc_notCl h)) id
  have hcell : ∃ v0, w.s.heap.IsCell a v0 := by
   have := w.S.objs i a _ ha hc
   cases o with
   | lst => cases ho
   | cell => obtain ⟨o, v, e, d, _⟩ := this; exact ⟨v, o, e, d⟩
  obtain ⟨v0, hcell⟩ := hcell
  refine wpAny_storeName_cell K.kind (K.ce1 k hce) hl hcell fun h' hc' hs' => ?_
  obtain ⟨o, e, d⟩ := hc'
  have po : Post w.U K.b w.ρ none w.s.heap w.ρ (setN (.cell (some x)) w.H i) h' := Post.setObj w.S ha (Nat.le_of_ble_eq_true hb) (fun b o hb e => (hs'.2 b hb).trans e) ⟨o, e⟩ (fun m => ⟨o, _, e, d, fun y q => ⟨v, rfl, Option.some.inj q ▸ VRel.map m r⟩⟩) Dic.none
  have l := Le.next po (Nat.le_refl w.s.toks)
  exact kont _ () l.widen ⟨rfl, c.F.up c.O l⟩
 ·rename_i hi
  refine Op.some fun Q E kont => ?_
  have hloc : isLoc K.kd k = true := hs.elim id fun h => let ⟨i, e⟩ := K.cov k (isCe_cl h); nomatch hi.symm.trans e
  obtain ⟨mm, hn, hr⟩ := c.F
  refine wpAny_storeName_local (K.loc k hloc) (by rw [K.eL]; exact hn) (fun h' hns hs' => ?_) (by rw [K.kind]; rfl)
  rw [K.eL] at hns hs'
  have al : ∀ a o, w.s.heap.get? a = some o → ∃ o', h'.get? a = some o' := fun a o e => by
   by_cases q : a = K.L
   ·subst q; obtain ⟨o, _, _, e, _⟩ := hns; exact ⟨o, e⟩
   ·exact ⟨o, (hs'.2 a q).trans e⟩
  have E : ∀ m, Evo m w.ρ (some K.L) w.s.heap h' := fun m => ⟨al, fun a o e _ _ hL => (hs'.2 a (fun q => hL (by rw [q]))).trans e⟩
  have S' : SRel w.U w.ρ w.H h' := w.S.keep (E _) c.dic (fun a e => Option.some.inj e ▸ ⟨c.O.apart, c.O.base, c.O.tab⟩) fun x hx o e => (hs'.2 _ (fun q => c.O.tab ⟨x, hx, q⟩)).trans e
  have l := Le.next (w := w) ⟨S', E K.b, Ext.refl, Fresh.refl⟩ (Nat.le_succ w.s.toks)
  refine kont _ () l ⟨rfl, _, hns, fun j y e => ?_⟩
  rw [lkp_setL] at e
  split at e
  ·rename_i q
   exact ⟨v, if_pos (congrArg nm q), Option.some.inj e ▸ r.upL l c.dic⟩
  ·rename_i q
   obtain ⟨v', e1, e2⟩ := hr j y e
   exact ⟨v', by rw [if_neg (fun z => q (nm_inj z))]; exact e1, VR.upL e2 l c.dic⟩
theorem stores_snd {f : Nat × Pos → Value → Sem Unit} (hf : ∀ k v Q E s, wpAny M0 A (storeName K.env (nm k.1) v) Q E s → wpAny M0 A (f k v) Q E s) {ks : List (Nat × Pos)} : ∀ {xs : List AV} {vs : List Value} {lo : Lo} {w : Ws}, (ks.all fun x => stok K.kd x.1) = true → Conf K lo w → VRs w xs vs →
  Ev K.b (some K.L) (Pr (FrL K)) w (wq A (assignInOrder (ks.map f) vs) w) (storesM ks xs lo K.ce K.b w.H) := by
 induction ks with
 | nil => exact fun _ c r => r.t0 (fun l => assignInOrder [] l) (Op.some fun Q E q => wpAny_assignInOrder_none (q _ () Le.refl ⟨rfl, c.F⟩))
 | cons k ks ih =>
  exact fun hk c r => r.tc (fun l => assignInOrder (f k :: ks.map f) l) fun x r' v vs a rs => Ev.bindL (store_snd c (and_split hk).1 a) (fun Q E h => wpAny_assignInOrder_more (hf k _ _ _ _ h)) fun w1 lo1 _ l1 F1 =>
   ih (and_split hk).2 (c.upL l1 F1) (rs.upL l1 c.dic)
theorem storesM_len {ce : Ce} {b : Nat} {ks : List (Nat × Pos)} : ∀ {xs : List AV} {vs : List Value} {lo : Lo} {H : St}, VRs w xs vs → Op (fun _ => ks.length = vs.length) (storesM ks xs lo ce b H) := by
 induction ks with
 | nil => exact fun r => r.o0 (fun l _ => 0 = l.length) (Op.some rfl)
 | cons k ks ih =>
  exact fun r => r.oc (fun l _ => ks.length + 1 = l.length) fun x r v vs a c z e => by
   cases q : storeM k.1 x _ ce b _ with
   | none => rw [q] at e; cases e
   | some p => rw [q] at e; exact congrArg (· + 1) (ih c z e)
theorem assignEach_names (env : Env) : ∀ ks : List (Nat × Pos), assignEach (ks.map fun x => Expr.Name (nm x.1) x.2) env = ks.map fun x => (false, assign (.Name (nm x.1) x.2) env)
 | [] => rfl
 | x :: r => by
  show (false, _) :: assignEach (r.map _) env = _
  rw [assignEach_names env r]; rfl
theorem assign_snd (c : Conf K lo w) (R : Rm A n) {t : Tg} (hk : t.ok K.kd = true) (r : VR w x v) : Ev K.b (some K.L) (Pr (FrL K)) w (wq A (PySem.assign t.toE K.env v) w) (asgM t x lo K.ce K.b w.H) := by
 cases t with
 | name k p => exact Ev.to (store_snd c hk r) fun Q E h => wpAny_assign_Name h
 | tup ks p =>
  refine r.asT (PySem.assign (Tg.tup ks p).toE K.env) fun i a vs n e r _ z ez Q E kont => ?_
  refine wpAny_assign_Tuple R.hd ⟨_, e, rfl, _, rfl⟩ ?_ ?_ fun h' hx => ?_
  ·rw [assignEach_names, List.length_map, List.size_toArray, storesM_len r z ez]
  ·rw [assignEach_names, List.findIdx?_eq_none_iff]
   intro x hx
   obtain ⟨y, _, rfl⟩ := List.mem_map.mp hx
   rfl
  ·rw [assignEach_names, List.map_map]
   have kp : ∀ a o, w.s.heap.get? a = some o → h'.get? a = some o := fun a o e => hx a o (Nat.ne_of_lt (Heap.lt_size e)) e
   have l := Le.next (w := w) (b := K.b) (L := none) (Post.keep w.S kp) (Nat.le_refl w.s.toks)
   exact stores_snd (fun k v Q E s h => wpAny_assign_Name h) hk (c.up l) (VRs.up r l) z ez Q E fun w2 v l2 => kont w2 v (l.widen.trans l2)
end
theorem lookup_names (kd : List (Nat × K3)) (k : Nat) : (kd.map fun x => (nm x.1, x.2.kind)).lookup (nm k) = (lkp k kd).map K3.kind := by
 induction kd with
 | nil => rfl
 | cons x r ih =>
  obtain ⟨j, v⟩ := x
  rw [List.map_cons, List.lookup_cons]
  unfold lkp
  cases q : Nat.beq j k with
  | true =>
   have := Nat.eq_of_beq_eq_true q
   subst this
   rw [beq_self_eq_true]; rfl
  | false =>
   have hne : ¬ nm k = nm j := fun e => by
    have := nm_inj e; subst this
    rw [Nat.beq_refl] at q; cases q
   rw [beq_eq_false_iff_ne.mpr hne]
   exact ih
theorem lkp_mem {α : Type} {k : Nat} : ∀ {l : List (Nat × α)} {v : α}, lkp k l = some v → (k, v) ∈ l
 | (j, w) :: r, v, h => by
  unfold lkp at h
  split at h
  ·rename_i q
   have := Nat.eq_of_beq_eq_true q
   subst this
   cases h; exact .head _
  ·exact .tail _ (lkp_mem h)
theorem lkp_of_nodup {k : Nat} : ∀ {l : List (Nat × K3)} {v : K3}, nodupK l = true → (k, v) ∈ l → lkp k l = some v
 | (j, w) :: r, v, h, m => by
  unfold nodupK at h
  obtain ⟨h1, h2⟩ := and_split h
  unfold lkp
  cases m with
  | head => rw [Nat.beq_refl]
  | tail _ m =>
   have hne : Nat.beq j k = false := by
    cases q : Nat.beq j k with
    | false => rfl
    | true =>
     have := Nat.eq_of_beq_eq_true q
     subst this
     have : (r.any fun y => Nat.beq y.1 j) = true := List.any_eq_true.mpr ⟨_, m, Nat.beq_refl _⟩
     rw [this] at h1; cases h1
   rw [hne]
   exact lkp_of_nodup h2 m
theorem cellsM_cov (k : Nat) : ∀ (kd : List (Nat × K3)) (ce : Ce) (H : St), ((k, K3.cel) ∈ kd ∨ ∃ i, lkp k ce = some i) → ∃ i, lkp k (cellsM kd ce H).1 = some i := by
 intro kd
 induction kd with
 | nil => exact fun ce H h => h.elim (fun h => nomatch h) id
 | cons x r ih =>
  intro ce H h
  obtain ⟨j, u⟩ := x
  cases u with
  | cel =>
   refine ih ((j, H.length) :: ce) (H ++ [.cell none]) ?_
   rcases h with h | ⟨i, h⟩
   ·cases h with
    | head => exact .inr ⟨H.length, by unfold lkp; rw [Nat.beq_refl]⟩
    | tail _ m => exact .inl m
   ·refine .inr ?_
    unfold lkp
    cases q : Nat.beq j k with
    | true => exact ⟨_, rfl⟩
    | false => exact ⟨i, h⟩
  | _ => exact ih ce H (h.imp (fun h => by cases h with | tail _ m => exact m) id)
theorem cellsM_in (k i : Nat) : ∀ (kd : List (Nat × K3)) (ce : Ce) (H : St), lkp k (cellsM kd ce H).1 = some i → (k, K3.cel) ∈ kd ∨ ∃ i, lkp k ce = some i := by
 intro kd
 induction kd with
 | nil => exact fun ce H h => .inr ⟨i, h⟩
 | cons x r ih =>
  intro ce H h
  obtain ⟨j, u⟩ := x
  cases u with
  | cel =>
   have h : lkp k (cellsM r ((j, H.length) :: ce) (H ++ [.cell none])).1 = some i := h
   rcases ih _ _ h with q | ⟨i, q⟩
   ·exact .inl (.tail _ q)
   ·unfold lkp at q
    split at q
    ·rename_i z
     exact .inl (Nat.eq_of_beq_eq_true z ▸ .head _)
    ·exact .inr ⟨i, q⟩
  | _ => exact (ih ce H h).imp (.tail _) id
section
variable {A : Around}
theorem Rm.deeper (R : Rm A (n + 1)) (env : Env) : Rm (A.deeper env) n := by
 refine ⟨R.hd, ?_, ?_⟩
 ·have := R.dp
  have e : (A.deeper env).depth = A.depth + 1 := rfl
  (first | lia | omega)
 ·have := R.un
  have e : (A.deeper env).units ≤ A.units + 12 := by first | exact Nat.le_refl _ | (show A.units + _ ≤ A.units + 12; (first | lia | omega)) | (unfold Around.deeper; simp)
  (first | lia | omega)
end
section
variable {A : Around} {b : Nat} {L : Option Addr} {w w' w2 : Ws} {K : Kn} {lo lo' : Lo} {x u y : AV} {xs : List AV} {v v2 va vb : Value} {vs : List Value} {n : Nat}
theorem cells_post {b : Nat} {U : Addr → Prop} (m : Nat) : ∀ (kd : List (Nat × K3)) (ce : Ce) (H : St) (ρ : List Addr) (h : Heap) (acc : List (Str × Addr)), SRel U ρ H h → m ≤ h.objs.size → (∀ k i, lkp k ce = some i → ∃ a, ρ[i]? = some a ∧ acc.lookup (nm k) = some a) →
  ∃ ρ', Post U b ρ none h ρ' (cellsM kd ce H).2 (pushCells h (kd.map fun x => (nm x.1, x.2.kind))) ∧ (∀ (i : Nat) a, ρ.length ≤ i → ρ'[i]? = some a → m ≤ a) ∧
   ∀ k i, lkp k (cellsM kd ce H).1 = some i → ∃ a, ρ'[i]? = some a ∧ (cellsFrom h.objs.size (kd.map fun x => (nm x.1, x.2.kind)) acc).lookup (nm k) = some a := by
 intro kd
 induction kd with
 | nil => exact fun ce H ρ h acc S hl hc => ⟨ρ, Post.refl S, fun i a hi e => absurd (get_lt e) (Nat.not_lt.mpr hi), hc⟩
 | cons x r ih =>
  intro ce H ρ h acc S hl hc
  obtain ⟨j, u⟩ := x
  rw [List.map_cons]
  unfold pushCells cellsFrom
  cases u with
  | cel =>
   have p := Post.newObj (b := b) (L := none) S (ob := .cell none) (h' := h.push { cls := .type "cell", data := .cell none }) h.objs.size (Nat.le_refl _) (fun _ _ e => Heap.get?_push_of_some _ e) (fun _ => ⟨_, none, Heap.get?_push_size _ rfl, rfl, fun _ q => nomatch q⟩)
   obtain ⟨ρ', q, q1, q2⟩ := ih ((j, H.length) :: ce) (H ++ [.cell none]) (ρ ++ [h.objs.size]) (h.push { cls := .type "cell", data := .cell none }) ((nm j, h.objs.size) :: acc) p.S (by rw [Heap.size_push]; exact Nat.le_succ_of_le hl) fun k i e => by
    unfold lkp at e
    split at e
    ·rename_i z
     exact ⟨h.objs.size, sI1 e ▸ S.len ▸ app_last, by rw [Nat.eq_of_beq_eq_true z, List.lookup_cons, beq_self_eq_true]⟩
    ·rename_i z
     obtain ⟨a, e1, e2⟩ := hc k i e
     exact ⟨a, p.X _ _ e1, by rw [List.lookup_cons, beq_eq_false_iff_ne.mpr fun e => Nat.ne_of_beq_eq_false z (nm_inj e).symm]; exact e2⟩
   rw [Heap.size_push] at q2
   refine ⟨ρ', p.trans q, fun i a hi e => ?_, q2⟩
   by_cases hz : i < (ρ ++ [h.objs.size]).length
   ·exact (app_split (q.X.old hz e)).elim (fun e => absurd (get_lt e) (Nat.not_lt.mpr hi)) fun q => q.2 ▸ hl
   ·exact q1 i a (Nat.le_of_not_lt hz) e
  | loc => exact ih ce H ρ h acc S hl hc
  | fre => exact ih ce H ρ h acc S hl hc
  | glb => exact ih ce H ρ h acc S hl hc
noncomputable def envOf (kd : List (Nat × K3)) (mo : List (Str × Const)) (cells : List (Str × Addr)) (qual : Str) (func : Option Addr) (code : Value) (L : Addr) : Env :=
 { scope := scopeOf kd mo, locals := L, globals := mainGlobals, cells, qual, func, code, frame := some L, builtins := builtinsNs }
theorem kind_of {kd : List (Nat × K3)} {mo : List (Str × Const)} {cells : List (Str × Addr)} {qual : Str} {func : Option Addr} {code : Value} {L : Addr} {k : Nat} {u : K3} (e : lkp k kd = some u) : (envOf kd mo cells qual func code L).kindOf (nm k) = some u.kind := by
 show (kd.map fun x => (nm x.1, x.2.kind)).lookup (nm k) = _
 rw [lookup_names, e]; rfl
theorem isLoc_at {kd : List (Nat × K3)} {k : Nat} (h : isLoc kd k = true) : lkp k kd = some .loc := by
 unfold isLoc at h
 split at h <;> first | assumption | cases h
theorem isCe_at {kd : List (Nat × K3)} {k : Nat} (h : isCe kd k = true) : lkp k kd = some .cel := by
 unfold isCe at h
 split at h <;> first | assumption | cases h
theorem isG_at {kd : List (Nat × K3)} {k : Nat} (h : isG kd k = true) : lkp k kd = some .glb := by
 unfold isG at h
 split at h <;> first | assumption | cases h
theorem isCl_at {kd : List (Nat × K3)} {k : Nat} (h : isCl kd k = true) : lkp k kd = some .cel ∨ lkp k kd = some .fre := by
 unfold isCl at h
 split at h <;> first | exact .inl ‹_› | exact .inr ‹_› | cases h
noncomputable def newK (A : Around) (n : Nat) (R : Rm A (n + 1)) (kd : List (Nat × K3)) (tq : Nat) (ce : Ce) (mo : List (Str × Const)) (cells : List (Str × Addr)) (qual : Str) (func : Option Addr) (code : Value) (L : Addr) (b : Nat)
  (inn : ∀ k i, lkp k ce = some i → isCl kd k = true) (cov : ∀ k, isCl kd k = true → ∃ i, lkp k ce = some i) (ht : tq ≠ 0 → ∃ x ∈ C0.T, code = .ref x.1 ∧ x.2.2 = qual ++ tqName tq) : Kn where
 A := A.deeper (envOf kd mo cells qual func code L)
 kd := kd
 tq := tq
 ce := ce
 env := envOf kd mo cells qual func code L
 L := L
 b := b
 n := n
 R := R.deeper _
 kind := rfl
 loc := fun k e => kind_of (isLoc_at e)
 cl := fun k e => (isCl_at e).imp kind_of kind_of
 ce1 := fun k e => kind_of (isCe_at e)
 glb := fun k e => kind_of (isG_at e)
 eL := rfl
 globals := rfl
 builtins := rfl
 ceCl := inn
 cov := cov
 tab := ht
theorem storeAll_snd {f : Str × Value → PUnit → Sem (ForInStep PUnit)} (hf : ∀ n v u, f (n, v) u = (do storeName K.env n v; pure (.yield ⟨⟩))) : ∀ {binds : List (Nat × AV)} {vs : List Value} {lo : Lo} {w : Ws}, (binds.all fun x => stok K.kd x.1) = true → VRs w (binds.map (·.2)) vs → Conf K lo w →
  Ev K.b (some K.L) (Pr (FrL K)) w (wq A (forIn ((binds.map fun x => nm x.1).zip vs) ⟨⟩ f) w) (storeAll binds lo K.ce K.b w.H) := by
 intro binds
 induction binds with
 | nil =>
  exact fun _ r c => Op.some fun Q E q => by
   show wpAny _ _ (forIn [] _ _) Q E _
   rw [List.forIn_nil]; exact wpAny_pure (q _ () Le.refl ⟨rfl, c.F⟩)
 | cons y binds ih =>
  intro vs lo w hk r c
  obtain ⟨v, ws, rfl, a, rs⟩ := r
  refine Ev.bindL (G := fun _ s Q E => wpAny M0 A (forIn ((binds.map fun (x : Nat × AV) => nm x.1).zip ws) PUnit.unit f) Q E s) (store_snd (A := A) c (and_split hk).1 a) (fun Q E h => ?_) fun w1 lo1 _ l1 F1 => ih (and_split hk).2 (VRs.upL rs l1 c.dic) (c.upL l1 F1)
  show wpAny _ _ (forIn ((nm y.1, v) :: (binds.map fun x => nm x.1).zip ws) _ _) Q E _
  rw [List.forIn_cons, hf]
  exact wpAny_bind (wpAny_bind (wpAny_mono h (fun _ _ h => wpAny_pure h) fun _ _ e => e))
theorem Le.frame {L' : Addr} {b' : Nat} (l : Le b L w w') (m : Le b' (some L') w' w2) (hL : w.s.heap.get? L' = none) (hb : b ≤ b') : Le b L w w2 := ⟨l.p.frame (l.u ▸ m.p) hL hb, Nat.le_trans l.t m.t, m.u.trans l.u, m.s.trans (by rw [l.s])⟩
structure NewF (n : Nat) (kd : List (Nat × K3)) (tq : Nat) (ce0 : Ce) (b b' : Nat) (w : Ws) (code : Value) (qual : Str) (clo : List (Str × Addr)) (A : Around) : Prop where
 R : Rm A (n + 1)
 hb : b ≤ b'
 nd : nodupK kd = true
 clo : ∀ k i, lkp k ce0 = some i → ∃ a, w.ρ[i]? = some a ∧ clo.lookup (nm k) = some a
 cl0 : ∀ k i, lkp k ce0 = some i → isCl kd k = true
 cov : ∀ k, (k, K3.fre) ∈ kd → ∃ i, lkp k ce0 = some i
 ht : tq ≠ 0 → ∃ x ∈ C0.T, code = .ref x.1 ∧ x.2.2 = qual ++ tqName tq
noncomputable def newF {n : Nat} {kd : List (Nat × K3)} {tq : Nat} {ce0 : Ce} {b b' : Nat} {w : Ws} {code : Value} {qual : Str} {clo : List (Str × Addr)} {A : Around} (N : NewF n kd tq ce0 b b' w code qual clo A) (mo : List (Str × Const)) (cells : List (Str × Addr)) (func : Option Addr) (L : Addr) : Kn :=
 newK A n N.R kd tq (cellsM kd ce0 w.H).1 mo cells qual func code L b' (fun k i e => (cellsM_in k i kd ce0 w.H e).elim (fun q => by unfold isCl; rw [lkp_of_nodup N.nd q]) fun ⟨i, q⟩ => N.cl0 k i q)
  (fun k e => cellsM_cov k kd ce0 w.H ((isCl_at e).imp lkp_mem fun q => N.cov k (lkp_mem q))) N.ht
theorem frame_snd {A1 : Around} {γ β : Type} {R2 : Ws → γ → β → Prop} {T : (β → Shared → Prop) → (Value → Shared → Prop) → Prop} {G : Env → Shared → (β → Shared → Prop) → (Value → Shared → Prop) → Prop} {f : Lo → St → Option γ} {kd : List (Nat × K3)} {tq b' : Nat} {ce0 : Ce} {mo : List (Str × Const)} {clo : List (Str × Addr)} {binds : List (Nat × AV)} {qual : Str} {fa : Addr} {code : Value} (N : NewF n kd tq ce0 b b' w code qual clo A)
  (hbk : (binds.all fun x => stok kd x.1) = true) (r : VRs w (binds.map (·.2)) vs) (k : ∀ Q E, wpAny M0 A1 (newFunctionEnv (scopeOf kd mo) mainGlobals clo ((binds.map fun x => nm x.1).zip vs) qual (some fa) code none builtinsNs) (fun v s => G v s Q E) E w.s → T Q E)
  (h2 : ∀ cells L w' lo, Le b none w w' → w.s.heap.get? L = none → Conf (newF N mo cells (some fa) L) lo w' → Op (fun z => ∀ Q E, (∀ w3 v, Le b none w w3 → R2 w3 z v → Q v w3.s) → G (newF N mo cells (some fa) L).env w'.s Q E) (f lo w'.H)) :
  Ev b none R2 w T (ob2 (storeAll binds [] (cellsM kd ce0 w.H).1 b' (cellsM kd ce0 w.H).2) f) := by
 intro z ez Q E kont
 refine k Q E ?_
 simp only [newFunctionEnv, Option.isSome_none, Bool.false_eq_true, if_false]
 refine wpAny_bind (wpAny_alloc ?_)
 refine wpAny_bind (wpAny_layCells _ (fun name kind cells => by cases hkc : kind == NameKind.cell <;> simp [hkc]) _ _ _ _ ?_)
 have p0 := Post.push (b := b) (L := none) w.S { cls := .type "frame", data := .dict #[] }
 obtain ⟨ρ1, p1, low, hc⟩ := cells_post (b := b) (w.s.heap.objs.size + 1) kd ce0 w.H w.ρ (w.s.heap.push { cls := .type "frame", data := .dict #[] }) clo p0.S (by rw [Heap.size_push]; exact Nat.le_refl _) N.clo
 have l1 := Le.next (w := w) (p0.trans p1) (Nat.le_refl w.s.toks)
 have fresh : w.s.heap.get? w.s.heap.objs.size = none := none_at (Nat.le_refl _)
 have c1 : Conf (newF N mo (cellsFrom (w.s.heap.push { cls := .type "frame", data := .dict #[] }).objs.size (kd.map fun x => (nm x.1, x.2.kind)) clo) (some fa) w.s.heap.objs.size) [] (w.next (p0.trans p1) (Nat.le_refl w.s.toks)) :=
  ⟨⟨_, (Heap.Ns.new w.s.heap (.type "frame")).keeps (pushCells_keeps _ _), fun k v e => (nomatch e)⟩, hc, (w.S.old fresh).2, fun i e => (Nat.lt_or_ge i w.ρ.length).elim (fun hi => (w.S.old fresh).1 i ((p0.trans p1).X.old hi e)) fun hi => absurd (low i _ hi e) (Nat.not_le.mpr (Nat.lt_succ_self _)),
   fun ⟨x, hx, q⟩ => by
    obtain ⟨_, _, ps, t⟩ := w.S.tabs x hx
    exact nomatch (fresh.symm.trans ((congrArg w.s.heap.get? q).symm.trans t.at_))⟩
 cases eo : storeAll binds [] (cellsM kd ce0 w.H).1 b' (cellsM kd ce0 w.H).2 with
 | none => rw [eo] at ez; cases ez
 | some y =>
  rw [eo] at ez
  refine wpAny_bind (storeAll_snd (A := A1) (by intros; rfl) hbk (VRs.up r l1) c1 y eo _ E fun w2 _ l2 F2 => wpAny_pure ?_)
  have l := l1.frame l2 fresh N.hb
  exact h2 _ _ w2 y.1 l fresh (c1.upL l2 F2.2) z (F2.1 ▸ ez) Q E kont
end
theorem lookup_zip_none : ∀ {ns : List Str} {vs : List Value} {n : Str}, n ∉ ns → (ns.zip vs).lookup n = none
 | [], _, _, _ => by simp
 | _ :: _, [], _, _ => by simp
 | m :: ns, v :: vs, n, h => by
  rw [List.zip_cons_cons, List.lookup_cons, beq_eq_false_iff_ne.mpr (fun e => h (by rw [e]; exact .head _))]
  exact lookup_zip_none fun q => h (.tail _ q)
theorem filterMap_zip : ∀ {ns : List Str} {vs : List Value} (pre : List (Str × Value)), ns.Nodup → (∀ n ∈ ns, pre.lookup n = none) → ns.length = vs.length →
  ns.filterMap (fun n => ((pre ++ ns.zip vs).lookup n).map (n, ·)) = ns.zip vs
 | [], _, _, _, _, _ => by simp
 | n :: ns, [], _, _, _, h => by cases h
 | n :: ns, v :: vs, pre, hn, hp, hl => by
  obtain ⟨h1, h2⟩ := List.nodup_cons.mp hn
  have e : (pre ++ (n :: ns).zip (v :: vs)).lookup n = some v := by
   rw [List.lookup_append, hp n (.head _), List.zip_cons_cons, List.lookup_cons, beq_self_eq_true]; rfl
  rw [List.filterMap_cons, e]
  show (n, v) :: _ = (n, v) :: ns.zip vs
  congr 1
  have := filterMap_zip (ns := ns) (vs := vs) (pre ++ [(n, v)]) h2 (fun m hm => by
   rw [List.lookup_append, hp m (.tail _ hm), List.lookup_cons, beq_eq_false_iff_ne.mpr (fun (q : m = n) => h1 (by rw [← q]; exact hm))]; rfl) (by simpa using hl)
  rw [List.append_assoc] at this
  exact this
theorem zip_has {ns : List Str} {vs : List Value} {n : Str} (h : n ∈ ns) (hl : ns.length = vs.length) : ((ns.zip vs).lookup n).isNone = false := by
 induction ns generalizing vs with
 | nil => cases h
 | cons m ns ih =>
  cases vs with
  | nil => cases hl
  | cons v vs =>
   rw [List.zip_cons_cons, List.lookup_cons]
   cases q : n == m with
   | true => rfl
   | false =>
    cases h with
    | head => rw [beq_self_eq_true] at q; cases q
    | tail _ h => exact ih h (by simpa using hl)
theorem bind_plain {fd : FuncData} {ps : List (Nat × Pos)} {vals : List Value} {s : Shared} {kw : List (Option Expr)} {df : List Expr} (hp : fd.params = { argsOf ps with kw_defaults := kw, defaults := df }) (hd : fd.defaults = .none) (hn : (ps.map fun x => nm x.1).Nodup) (hl : ps.length = vals.length) :
  BindsTo s fd ⟨vals, []⟩ ((ps.map fun x => nm x.1).zip vals) := fun M A E Q q => by
 have hnames : ps.map ((fun x : Arg => x.arg) ∘ argOf) = ps.map fun x => nm x.1 := rfl
 have hmiss : ∀ k, ((ps.map fun x => nm x.1).take k).filter (fun n => (((ps.map fun x => nm x.1).zip vals).lookup n).isNone) = [] := fun k => by
  rw [List.filter_eq_nil_iff]
  intro n h1
  rw [zip_has (List.mem_of_mem_take h1) (by simpa using hl)]
  exact Bool.false_ne_true
 have hfm := filterMap_zip (ns := ps.map fun x => nm x.1) (vs := vals) [] hn (fun _ _ => rfl) (by simpa using hl)
 rw [List.nil_append] at hfm
 unfold bindArgs
 rw [hp, hd]
 simp only [argsOf, List.map_nil, List.nil_append, List.map_map, hnames, List.forIn_nil, pure_bind, seqItems?]
 have hg : (decide (vals.length > (ps.map fun x => nm x.1).length) && (none : Option Arg).isNone) = false := by
  rw [Bool.and_eq_false_iff]
  exact .inl (decide_eq_false (by rw [List.length_map]; omega))
 refine wpAny_bind (wpAny_pure (a := (none : Option (Array Value))) ?_)
 rw [hg, if_neg Bool.false_ne_true]
 simp only [Option.getD_none, List.drop_nil, List.length_nil, Nat.sub_zero, hmiss, List.isEmpty_nil, Bool.not_true, Bool.false_eq_true, if_false, List.zip_nil_right, List.forIn_nil, pure_bind, List.append_nil, hfm]
 exact wpAny_pure q
theorem bis2 {fd : FuncData} {p1 p2 p3 p4 p5 : Pos} {kd : List (Option Expr)} {d : List Expr} {a x v : Value} {s : Shared} {T : Addr} {o : Obj} {n : Nat} {t : Tok}
  (hp : fd.params = { posonlyargs := [], args := [(9, p1), (26, p2), (44, p3), (45, p4)].map argOf, vararg := none, kwonlyargs := [(46, p5)].map argOf, kw_defaults := kd, kwarg := none, defaults := d })
  (hd : fd.defaults = .ref T) (ho : s.heap.get? T = some o) (hs : o.data = .seq #[.int 0 t, .none] n) :
  BindsTo s fd ⟨[a, x], [(nm 46, v)]⟩ [(nm 9, a), (nm 26, x), (nm 44, .int 0 t), (nm 45, .none), (nm 46, v)] := by
 obtain ⟨f1, f2, f3, f4, f5, f6, f7, f8, f9, f10, f11, f12, f13, f14, f15⟩ := fd
 dsimp only at hp hd
 subst hp
 exact BindsTo.of_defaults hd ho hs rfl rfl
theorem bis4 {fd : FuncData} {p1 p2 p3 p4 p5 : Pos} {kd : List (Option Expr)} {d : List Expr} {a x l h v : Value} {s : Shared} {T : Addr} {o : Obj} {n : Nat} {t : Tok}
  (hp : fd.params = { posonlyargs := [], args := [(9, p1), (26, p2), (44, p3), (45, p4)].map argOf, vararg := none, kwonlyargs := [(46, p5)].map argOf, kw_defaults := kd, kwarg := none, defaults := d })
  (hd : fd.defaults = .ref T) (ho : s.heap.get? T = some o) (hs : o.data = .seq #[.int 0 t, .none] n) :
  BindsTo s fd ⟨[a, x, l, h], [(nm 46, v)]⟩ [(nm 9, a), (nm 26, x), (nm 44, l), (nm 45, h), (nm 46, v)] := by
 obtain ⟨f1, f2, f3, f4, f5, f6, f7, f8, f9, f10, f11, f12, f13, f14, f15⟩ := fd
 dsimp only at hp hd
 subst hp
 exact BindsTo.of_defaults hd ho hs rfl rfl
theorem nodupP_names : ∀ {ps : List (Nat × Pos)}, nodupP ps = true → (ps.map fun x => nm x.1).Nodup
 | [], _ => List.nodup_nil
 | x :: r, h => by
  unfold nodupP at h
  obtain ⟨h1, h2⟩ := and_split h
  rw [List.map_cons, List.nodup_cons]
  refine ⟨fun m => ?_, nodupP_names h2⟩
  obtain ⟨y, hy, e⟩ := List.mem_map.mp m
  have : (r.any fun y => Nat.beq y.1 x.1) = true := List.any_eq_true.mpr ⟨y, hy, by rw [nm_inj e]; exact Nat.beq_refl _⟩
  rw [this] at h1; cases h1
theorem zip_fst {α β : Type} : ∀ {xs : List α} {ys : List β}, xs.length = ys.length → (xs.zip ys).map (·.1) = xs ∧ (xs.zip ys).map (·.2) = ys
 | [], [], _ => ⟨rfl, rfl⟩
 | [], _ :: _, h => by cases h
 | _ :: _, [], h => by cases h
 | x :: xs, y :: ys, h => by
  obtain ⟨h1, h2⟩ := zip_fst (xs := xs) (ys := ys) (by simpa using h)
  exact ⟨by rw [List.zip_cons_cons, List.map_cons, h1], by rw [List.zip_cons_cons, List.map_cons, h2]⟩
theorem fns_ko : ∀ {f : Nat} {fn : Fn}, nth fns f = some fn → fn.ko ≠ [] → fn.df ≠ [] ∧ ∃ p1 p2 p3 p4 p5 kd d, fn.args = { posonlyargs := [], args := [(9, p1), (26, p2), (44, p3), (45, p4)].map argOf, vararg := none, kwonlyargs := [(46, p5)].map argOf, kw_defaults := kd, kwarg := none, defaults := d }
 | 0, _, e, h | 1, _, e, h | 2, _, e, h | 3, _, e, h | 4, _, e, h | 5, _, e, h | 9, _, e, h | 10, _, e, h | 11, _, e, h | 12, _, e, h | 13, _, e, h | 14, _, e, h | 15, _, e, h | 16, _, e, h | 17, _, e, h | 18, _, e, h | 19, _, e, h | 20, _, e, h => by
  cases e; exact absurd rfl h
 | 6, _, e, h => by cases e; exact ⟨fun q => (nomatch q), _, _, _, _, _, _, _, rfl⟩
 | 7, _, e, h => by cases e; exact ⟨fun q => (nomatch q), _, _, _, _, _, _, _, rfl⟩
 | 8, _, e, h => by cases e; exact ⟨fun q => (nomatch q), _, _, _, _, _, _, _, rfl⟩
 | n + 21, _, e, h => by cases e
section
variable {A : Around} {b : Nat} {L : Option Addr} {w w' w2 : Ws} {K : Kn} {lo lo' : Lo} {x u y : AV} {xs : List AV} {v v2 va vb : Value} {vs : List Value} {n : Nat}
noncomputable def FlR (w : Ws) (r : RF) (fl : Flow) : Prop := match r, fl with
 | .nx, .next => True
 | .rt v, .ret val => VR w v val
 | _, _ => False
noncomputable def XR (K : Kn) (w : Ws) (r : RF × Lo × St) (fl : Flow) : Prop := w.H = r.2.2 ∧ FrR w.U w.ρ w.s.heap K.L r.2.1 ∧ FlR w r.1 fl
noncomputable abbrev Ex (K : Kn) (w : Ws) (t : Sem Flow) (o : Option (RF × Lo × St)) : Prop := Ev K.b (some K.L) (XR K) w (wq K.A t w) o
noncomputable def okSS (K : Kn) (ss : List S) : Prop := okSs C0.P K.kd K.tq ss = true
noncomputable def SndX (n : Nat) (ex : List S → Lo → Ce → Nat → St → Option (RF × Lo × St)) : Prop := ∀ ss K lo w, n ≤ K.n → okSS K ss → Conf K lo w → Ex K w (execs (toSs ss) K.env) (ex ss lo K.ce K.b w.H)
noncomputable def SndC (n : Nat) (cl : Nat → List AV → List (Nat × AV) → Nat → St → Option (AV × St)) : Prop :=
 ∀ f vs ks b w fn fa o fd A vals kvals, nth C0.P f = some fn → FnAt f fn fa o fd → f ≠ 13 → f ≠ 20 → Rm A n → VRs w vs vals → VRs w (ks.map (·.2)) kvals → Ea A b w (call (.ref fa) vals ((ks.map fun k => nm k.1).zip kvals)) (cl f vs ks b w.H)
noncomputable def SndV (n : Nat) (vc : AV → List AV → Nat → St → Option (AV × St)) : Prop := ∀ f vs b w A fv vals, Rm A n → VR w f fv → VRs w vs vals → Ea A b w (call fv vals []) (vc f vs b w.H)
structure Snd (n : Nat) (L : Lvl) : Prop where
 ev : SndE n L.ev
 tv : SndT n L.tv
 ex : SndX n L.ex
 cl : SndC n L.cl
 vc : SndV n L.vc
noncomputable def Bnd (w : Ws) (fd : FuncData) (kd : List (Nat × K3)) (vals : List Value) (kw : List (Str × Value)) (binds : List (Nat × AV)) : Prop :=
 ∃ bvals, BindsTo w.s fd ⟨vals, kw⟩ ((binds.map fun x => nm x.1).zip bvals) ∧ VRs w (binds.map (·.2)) bvals ∧ (binds.all fun x => stok kd x.1) = true
theorem bnd_zip {fd : FuncData} {ps : List (Nat × Pos)} {kw : List (Option Expr)} {df : List Expr} {kd : List (Nat × K3)} (r : VRs w xs vs) (hp : fd.params = { argsOf ps with kw_defaults := kw, defaults := df }) (hd : fd.defaults = .none) (hn : nodupP ps = true) (hl : Nat.beq ps.length xs.length = true)
  (hs : (ps.all fun x => stok kd x.1) = true) : Bnd w fd kd vs [] ((ps.map (·.1)).zip xs) := by
 have hl := Nat.eq_of_beq_eq_true hl
 obtain ⟨z1, z2⟩ := zip_fst (xs := ps.map (·.1)) (ys := xs) (by rw [List.length_map]; exact hl)
 have e1 : ((ps.map (·.1)).zip xs).map (fun x => nm x.1) = ps.map fun x => nm x.1 := by
  have : ((ps.map (·.1)).zip xs).map (fun x => nm x.1) = (((ps.map (·.1)).zip xs).map (·.1)).map nm := by rw [List.map_map]; rfl
  rw [this, z1, List.map_map]; rfl
 refine ⟨vs, ?_, by rw [z2]; exact r, ?_⟩
 ·rw [e1]
  exact bind_plain hp hd (nodupP_names hn) (by rw [← r.length]; exact hl)
 ·rw [List.all_eq_true] at hs ⊢
  intro x hx
  obtain ⟨y, hy, e⟩ := List.mem_map.mp (List.of_mem_zip hx).1
  rw [← e]; exact hs y hy
theorem bind_snd (ok : Ok0) {f : Nat} {fn : Fn} {fa : Addr} {o : Obj} {fd : FuncData} {ks : List (Nat × AV)} {kvals : List Value} (hf : nth C0.P f = some fn) (F : FnAt f fn fa o fd) (r : VRs w xs vs) (kr : VRs w (ks.map (·.2)) kvals) :
  Op (Bnd w fd fn.kd vs ((ks.map fun k => nm k.1).zip kvals)) (bindM fn xs ks) := by
 obtain ⟨_, hok⟩ := and_split F.okH
 obtain ⟨hnp, hok⟩ := and_split hok
 obtain ⟨hst, _⟩ := and_split hok
 refine Op.cnd (fun hko => Op.gd fun h => Op.some ?_) fun hko => ?_
 ·have hko := List.isEmpty_iff.mp hko
  obtain ⟨hks, h1⟩ := and_split h
  obtain ⟨hdf, hl⟩ := and_split h1
  cases List.isEmpty_iff.mp hks
  cases kr
  rw [hko] at hst
  exact bnd_zip r (by rw [F.params]; unfold Fn.args; rw [hko]; rfl) (F.dV0 (List.isEmpty_iff.mp hdf)) hnp hl hst
 ·have hne : fn.ko ≠ [] := fun e => by rw [e] at hko; cases hko
  rw [ok.P] at hf
  obtain ⟨hdf, p1, p2, p3, p4, p5, kd', d, hargs⟩ := fns_ko hf hne
  obtain ⟨T, oT, nT, tT, d1, d2, d3⟩ := F.dV2 hdf
  have hp := F.params.trans hargs
  have st5 : ([9, 26, 44, 45, 46].all fun k => stok fn.kd k) = true := by
   cases e : fn.ko with
   | nil => exact absurd e hne
   | cons => rw [e] at hst; exact hst
  cases ks with
  | nil => exact Op.none
  | cons k ks =>
   cases ks with
   | cons => exact Op.none
   | nil =>
    obtain ⟨j, y⟩ := k
    obtain ⟨kv, ws, rfl, kr1, kr2⟩ := kr
    cases kr2
    refine Op.gd fun hk => ?_
    cases Nat.eq_of_beq_eq_true hk
    refine Op.alt ?_ ?_
    ·exact r.o2 (fun vs => Bnd w fd fn.kd vs _) fun a x va vx ra rx => Op.some ⟨[va, vx, .int 0 tT, .none, kv], bis2 hp d1 (w.S.base _ _ d2) d3, ⟨_, _, rfl, ra, _, _, rfl, rx, _, _, rfl, VR.int, _, _, rfl, rfl, _, _, rfl, kr1, rfl⟩, st5⟩
    ·exact r.oc (fun vs => Bnd w fd fn.kd vs _) fun a r va vs ra rs => rs.o3 (fun l => Bnd w fd fn.kd (va :: l) _) fun x l h vx vl vh rx rl rh =>
      Op.some ⟨[va, vx, vl, vh, kv], bis4 hp d1 (w.S.base _ _ d2) d3, ⟨_, _, rfl, ra, _, _, rfl, rx, _, _, rfl, rl, _, _, rfl, rh, _, _, rfl, kr1, rfl⟩, st5⟩
theorem Post.dropL {U : Addr → Prop} {ρ ρ3 : List Addr} {H H3 : St} {h h3 : Heap} {Lz : Option Addr} (hZ : ∀ a, Lz = some a → LOk ρ a) (dZ : Dic Lz h) (S : SRel U ρ H h) (p : Post U H.length ρ Lz h ρ3 H3 h3) : Post U b ρ Lz h ρ H h3 :=
 have m := Mv.mono S p.E dZ Ext.refl
 ⟨⟨p.S.base, S.apart, S.nodup, S.len, fun i a ob e hn => (S.objs i a ob e hn).move m fun o ho => p.E.keep a o ho (fun i hi => S.up i a hi) (S.noTab e) fun q => (hZ a q).apart i e, p.S.tabs, p.S.hid⟩,
  ⟨p.E.alive, fun a o e _ ht hL => p.E.keep a o e (fun i hi => S.up i a hi) ht hL⟩, Ext.refl, Fresh.refl⟩
theorem old_rel {U : Addr → Prop} {ρ ρ3 ρ' : List Addr} {h : Heap} (X : Ext ρ ρ3) (X' : Ext ρ ρ') {x : AV} : ∀ {v : Value}, old ρ.length x = true → VRel U ρ3 h x v → VRel U ρ' h x v :=
 AV.rec (motive_1 := fun x => ∀ {v : Value}, old ρ.length x = true → VRel U ρ3 h x v → VRel U ρ' h x v) (motive_2 := fun xs => ∀ vs, olds ρ.length xs = true → VRels U ρ3 h xs vs → VRels U ρ' h xs vs)
  (fun _ r => r) (fun _ => fun _ r => r) (fun _ => fun _ r => r) (fun _ => fun _ r => r) (fun _ => fun _ r => r)
  (by rintro _ ih _ o ⟨a, vs, n, e, f, z, r⟩; exact ⟨a, vs, n, e, f, z, ih _ o r⟩)
  (by rintro _ _ o ⟨a, e, f⟩; exact ⟨a, e, X' _ _ (X.old (Nat.le_of_ble_eq_true o) f)⟩) (fun _ _ _ _ _ _ o => nomatch o) (fun _ _ _ _ _ _ o => nomatch o) (fun _ _ _ => fun _ r => r)
  (by rintro _ ih _ o ⟨a, ob, vs, n, e, f, g, i, r⟩; exact ⟨a, ob, vs, n, e, f, g, i, ih _ o r⟩)
  (fun _ _ r => r) (by rintro _ _ ih ihs _ o ⟨v, ws, e, r, rs⟩; exact ⟨v, ws, e, ih (and_split o).1 r, ihs _ (and_split o).2 rs⟩) x
theorem olds_rel {U : Addr → Prop} {ρ ρ3 ρ' : List Addr} {h : Heap} (X : Ext ρ ρ3) (X' : Ext ρ ρ') {xs : List AV} : ∀ {vs : List Value}, olds ρ.length xs = true → VRels U ρ3 h xs vs → VRels U ρ' h xs vs := by
 induction xs with
 | nil => exact fun _ r => r
 | cons x xs ih =>
  rintro _ o ⟨v, ws, e, r, rs⟩
  exact ⟨v, ws, e, old_rel X X' (and_split o).1 r, ih (and_split o).2 rs⟩
structure Ad (ρ ρ3 : List Addr) (got : List Nat) (ρk : List Addr) : Prop where
 len : ρk.length = ρ.length + got.length
 X : Ext ρ ρk
 at_ : ∀ j i, got[j]? = some i → ρ.length ≤ i ∧ ∃ a, ρ3[i]? = some a ∧ ρk[ρ.length + j]? = some a
section
variable {U : Addr → Prop} {ρ ρ3 ρk : List Addr} {H H3 Hk : St} {h h3 : Heap} {Lz : Option Addr} {got : List Nat}
noncomputable def Hm (U : Addr → Prop) (b : Nat) (Lz : Option Addr) (h h3 : Heap) (ρ ρ3 ρk : List Addr) (Hk : St) (P : List Addr → Prop) (got : List Nat) (os : List AO) : Prop :=
 ∃ ρk', Post U b ρ Lz h ρk' (Hk ++ os) h3 ∧ Ad ρ ρ3 got ρk' ∧ Ext ρk ρk' ∧ P ρk'
theorem home1_snd (S3 : SRel U ρ3 H3 h3) (X3 : Ext ρ ρ3) (N3 : Fresh ρ ρ3 h) (p : Post U b ρ Lz h ρk Hk h3) (ad : Ad ρ ρ3 got ρk) (r : VRel U ρ3 h3 x v) : Op (fun a => Hm U b Lz h h3 ρ ρ3 ρk Hk (fun ρ' => VRel U ρ' h3 a.1 v) a.2.1 a.2.2) (home1 ρ.length H3 got x) := by
 have plain : Op (fun a => Hm U b Lz h h3 ρ ρ3 ρk Hk (fun ρ' => VRel U ρ' h3 a.1 v) a.2.1 a.2.2) (gd (old ρ.length x) (some (x, got, []))) := Op.gd fun ho => Op.some ⟨ρk, by rw [List.append_nil]; exact p, ad, Ext.refl, old_rel X3 ad.X ho r⟩
 refine Op.alt ?_ plain
 cases x with
 | ref i =>
  obtain ⟨a, rfl, ha⟩ := r
  refine Op.cnd (fun hi => Op.some ⟨ρk, by rw [List.append_nil]; exact p, ad, Ext.refl, a, rfl, ad.X _ _ (X3.old (Nat.le_of_ble_eq_true hi) ha)⟩) fun hi => Op.gd fun hc => Op.ob1 fun xs e1 => Op.gd fun ho => Op.some ?_
  have hi : ρ.length ≤ i := Nat.le_of_not_lt fun q => nomatch hi.symm.trans (Nat.ble_eq_true_of_le q)
  obtain ⟨vs, n, e3, r1⟩ := getLst_rel (w := ⟨U, ρ3, H3, { heap := h3 }, S3, Nat.one_pos⟩) e1 ha
  have hnot : ∀ m : Nat, ρk[m]? ≠ some a := fun m em => by
   by_cases hm : m < ρ.length
   ·exact absurd (S3.nodup m i a (X3 _ _ (ad.X.old hm em)) ha) (Nat.ne_of_lt (Nat.lt_of_lt_of_le hm hi))
   ·have hl := get_lt em
    rw [ad.len] at hl
    have hj : got[m - ρ.length]? = some got[m - ρ.length] := List.getElem?_eq_getElem (by (first | lia | omega))
    obtain ⟨_, a', h1, h2⟩ := ad.at_ _ _ hj
    rw [Nat.add_sub_cancel' (Nat.le_of_not_lt hm), em] at h2
    cases h2
    have hc2 : got.contains i = true := by
     rw [List.contains_iff_mem, ← S3.nodup _ _ a h1 ha]
     exact List.getElem_mem _
    rw [hc2] at hc; cases hc
  have hlast : (ρk ++ [a])[ρ.length + got.length]? = some a := ad.len ▸ app_last
  refine ⟨ρk ++ [a], ⟨p.S.adopt (ob := .lst xs) hnot (S3.apart i a ha) ⟨vs, n, e3, ?_⟩, p.E, ad.X.trans Ext.app, fun m c hm em => ?_⟩, ⟨by rw [List.length_append, List.length_append, ad.len]; rfl, ad.X.trans Ext.app, fun j i' ej => ?_⟩, Ext.app, a, rfl, hlast⟩
  ·exact olds_rel X3 (ad.X.trans Ext.app) ho r1
  ·rcases app_split em with em | ⟨_, rfl⟩
   ·exact p.N m c hm em
   ·exact N3 i _ hi ha
  ·rcases Nat.lt_or_ge j got.length with hj | hj
   ·rw [List.getElem?_append_left hj] at ej
    obtain ⟨q1, a', q2, q3⟩ := ad.at_ j i' ej
    exact ⟨q1, a', q2, Ext.app _ _ q3⟩
   ·have hl := get_lt ej
    rw [List.length_append, List.length_singleton] at hl
    obtain rfl := Nat.le_antisymm (Nat.le_of_lt_succ hl) hj
    rw [List.getElem?_append_right (Nat.le_refl _), Nat.sub_self] at ej
    cases ej
    exact ⟨hi, a, ha, hlast⟩
 | _ => exact Op.none
theorem homes_snd (S3 : SRel U ρ3 H3 h3) (X3 : Ext ρ ρ3) (N3 : Fresh ρ ρ3 h) {xs : List AV} : ∀ {vs : List Value} {ρk : List Addr} {Hk : St} {got : List Nat}, Post U b ρ Lz h ρk Hk h3 → Ad ρ ρ3 got ρk → VRels U ρ3 h3 xs vs →
  Op (fun a => Hm U b Lz h h3 ρ ρ3 ρk Hk (fun ρ' => VRels U ρ' h3 a.1 vs) a.2.1 a.2.2) (homes ρ.length H3 got xs) := by
 induction xs with
 | nil =>
  intro vs ρk Hk got p ad r
  exact Op.some ⟨ρk, by rw [List.append_nil]; exact p, ad, Ext.refl, r⟩
 | cons x xs ih =>
  rintro _ ρk Hk got p ad ⟨v, ws, rfl, r, rs⟩
  refine Op.ob1 fun a ea => Op.ob1 fun c ec => Op.some ?_
  obtain ⟨ρ1, p1, ad1, X1, r1⟩ := home1_snd S3 X3 N3 p ad r a ea
  obtain ⟨ρ2, p2, ad2, X2, r2⟩ := ih p1 ad1 rs c ec
  exact ⟨ρ2, by rw [← List.append_assoc]; exact p2, ad2, X1.trans X2, v, ws, rfl, VRel.map (Mv.exts X2) r1, r2⟩
theorem home_snd (hZ : ∀ a, Lz = some a → LOk ρ a) (dZ : Dic Lz h) (S : SRel U ρ H h) (p : Post U H.length ρ Lz h ρ3 H3 h3) (r : VRel U ρ3 h3 x v) : Op (fun a => ∃ ρk, Post U b ρ Lz h ρk (H ++ a.2.2) h3 ∧ VRel U ρk h3 a.1 v) (home H.length H3 x) := by
 have p0 : Post U b ρ Lz h ρ H h3 := Post.dropL hZ dZ S p
 have ad0 : Ad ρ ρ3 [] ρ := ⟨rfl, Ext.refl, fun j i e => nomatch e⟩
 rw [← S.len]
 refine Op.alt ?_ fun a e => ?_
 ·cases x with
  | tup xs =>
   obtain ⟨a, vs, n, rfl, e, z, r⟩ := r
   refine Op.ob1 fun c ec => Op.some ?_
   obtain ⟨ρk, pk, _, _, rk⟩ := homes_snd p.S p.X p.N p0 ad0 r c ec
   exact ⟨ρk, pk, a, vs, n, rfl, e, z, rk⟩
  | _ => exact Op.none
 ·obtain ⟨ρk, pk, _, _, rk⟩ := home1_snd p.S p.X p.N p0 ad0 r a e
  exact ⟨ρk, pk, rk⟩
end
theorem Ok0.limit (ok : Ok0) (w : Ws) : w.s.heap.NoLimit := ok.lim.keeps w.S.base
structure Fun (h : Heap) (fa : Addr) (o : Obj) (fd : FuncData) (kd : List (Nat × K3)) (mo : List (Str × Const)) (body : FuncBody) : Prop where
 at_ : h.get? fa = some o
 data : o.data = .func fd
 body : fd.body = body
 scope : fd.scope = scopeOf kd mo
 globals : fd.globals = mainGlobals
 builtins : fd.builtins = builtinsNs
 code : h.CodeRec fd.code fd.qualname
theorem run_snd {Lv : Lvl} {kd : List (Nat × K3)} {tq b' : Nat} {ce0 : Ce} {mo : List (Str × Const)} {binds : List (Nat × AV)} {body : List S} {fa : Addr} {o : Obj} {fd : FuncData} {kw : List (Str × Value)} (ok : Ok0) (X : SndX n Lv.ex) (F : Fun w.s.heap fa o fd kd mo (.stmts (toSs body))) (N : NewF n kd tq ce0 b b' w fd.code (fd.qualname ++ ".<locals>.") fd.closure A)
  (hb : okSs C0.P kd tq body = true) (B : Bnd w fd kd vs kw binds) : Ea A b w (call (.ref fa) vs kw) (runS Lv kd binds body ce0 b' w.H) := by
 obtain ⟨bvals, B, r, hbk⟩ := B
 refine frame_snd (A1 := A.in1) (mo := mo) (fa := fa) N hbk r (G := fun env s Q E => s.heap.NoLimit ∧ codeAny M0 A (.func (toSs body) env) (fun r s' => match r with | .ok (.ret v) => Q v s' | .ok _ => False | .error e => E e s') s) (fun Q E h => ?_) fun cells L w1 lo l1 hL c1 z ez Q E q => ⟨ok.limit w1, codeAny_func ?_⟩
 ·refine wpAny_call (codeAny_call_function N.R.depth F.at_ F.data (by rw [F.scope]; rfl) (by rw [F.scope]; rfl) F.body F.code (B _ _ _ _ ?_))
  rw [F.scope, F.globals, F.builtins]
  exact h
 ·have hx := X body (newF N mo cells (some fa) L) lo w1 (Nat.le_refl n) hb c1
  cases ex : Lv.ex body lo (cellsM kd ce0 w.H).1 b' w1.H with
  | none => rw [ex] at ez; cases ez
  | some y =>
   rw [ex] at ez
   refine hx y ex _ _ fun w2 fl l2 F => ?_
   obtain ⟨e2, _, f2⟩ := F
   have l := l1.frame l2 hL N.hb
   obtain ⟨rf, lo3, H3⟩ := y
   cases rf <;> cases fl <;> first | exact f2.elim | cases ez
   ·exact q w2 .none l ⟨e2, rfl⟩
   ·exact q w2 _ l ⟨e2, f2⟩
theorem run_expr {ev : X → Lo → Ce → Nat → St → Option (AV × St)} {kd : List (Nat × K3)} {ce0 : Ce} {mo : List (Str × Const)} {binds : List (Nat × AV)} {body : X} {fa : Addr} {o : Obj} {fd : FuncData} (ok : Ok0) (I : SndE n ev) (F : Fun w.s.heap fa o fd kd mo (.expr body.toE)) (N : NewF n kd 0 ce0 b b w fd.code (fd.qualname ++ ".<locals>.") fd.closure A)
  (hb : body.ok C0.P kd 0 = true) (B : Bnd w fd kd vs [] binds) : Ea A b w (call (.ref fa) vs []) (ob2 (storeAll binds [] (cellsM kd ce0 w.H).1 b (cellsM kd ce0 w.H).2) fun lo H => ev body lo (cellsM kd ce0 w.H).1 b H) := by
 obtain ⟨bvals, B, r, hbk⟩ := B
 refine frame_snd (A1 := A.in1) (mo := mo) (fa := fa) N hbk r (G := fun env s Q E => s.heap.NoLimit ∧ codeAny M0 A (.expr body.toE env) (fun r s' => match r with | .ok (.ret v) => Q v s' | .ok _ => False | .error e => E e s') s) (fun Q E h => ?_) fun cells L w1 lo l1 hL c1 z ez Q E q => ⟨ok.limit w1, kla_codeExpr ?_⟩
 ·refine wpAny_call (kla_callFunE N.R.depth F.at_ F.data (by rw [F.scope]; rfl) (by rw [F.scope]; rfl) F.body F.code (B _ _ _ _ ?_))
  rw [F.scope, F.globals, F.builtins]
  exact h
 ·exact I body (newF N mo cells (some fa) L) lo w1 (Nat.le_refl n) hb c1 z ez _ _ fun w2 v l2 => q w2 v (l1.trans l2)
theorem cl_snd (ok : Ok0) {Lv : Lvl} (X : SndX n Lv.ex) : SndC (n + 1) (clS C0.P Lv) := by
 intro f vs ks b w fn fa o fd A vals kvals hf F h13 h20 R r kr
 obtain ⟨hnd, hok⟩ := and_split F.okH
 have hnf := (and_split (and_split hok).2).2
 have N : ∀ {b b'}, b ≤ b' → NewF n fn.kd (tqOf f) [] b b' w fd.code (fd.qualname ++ ".<locals>.") fd.closure A := fun h => ⟨R, h, hnd, (fun k i e => nomatch e), (fun k i e => nomatch e), (fun k m => nomatch List.all_eq_true.mp hnf _ m), F.tab⟩
 have Fn : Fun w.s.heap fa o fd fn.kd fn.mo (.stmts (toSs fn.body)) := ⟨w.S.base _ _ F.at_, F.data, F.body, F.scope, F.globals, F.builtins, F.code.keeps w.S.base⟩
 refine Ev.ob1 fun fn' e' => ?_
 cases hf.symm.trans e'
 refine Ev.ob1 fun binds eb => Ev.cnd (fun _ => ?_) fun _ => run_snd ok X Fn (N (Nat.le_refl b)) (F.okB h13 h20) (bind_snd ok hf F r kr binds eb)
 have h := run_snd ok X Fn (N (Nat.le_refl w.H.length)) (F.okB h13 h20) (bind_snd ok hf F r kr binds eb)
 intro z ez Q E q
 cases e : runS Lv fn.kd binds fn.body [] w.H.length w.H with
 | none => rw [e] at ez; cases ez
 | some y =>
  rw [e] at ez
  refine h y e Q E fun w3 v l3 r3 => ?_
  refine Op.ob1 (P := fun z => (∀ w' v, Le b none w w' → Pr VR w' z v → Q v w'.s) → Q v w3.s) (fun x ex => Op.some fun q => ?_) z ez q
  obtain ⟨ρk, pk, rk⟩ := home_snd (b := b) (Lz := none) (fun _ q => nomatch q) Dic.none w.S l3.p (l3.u ▸ r3.2 : VRel w.U w3.ρ w3.s.heap y.1 v) x (r3.1 ▸ ex)
  exact q ⟨w.U, ρk, _, w3.s, pk.S, w3.t⟩ v ⟨pk, l3.t, rfl, l3.s⟩ ⟨rfl, rk⟩
theorem cellsM_noCel {ce : Ce} {H : St} : ∀ {kd : List (Nat × K3)}, noCel kd = true → cellsM kd ce H = (ce, H) := by
 intro kd
 induction kd with
 | nil => exact fun _ => rfl
 | cons x r ih =>
  intro h
  obtain ⟨h1, h2⟩ := and_split h
  obtain ⟨k, u⟩ := x
  cases u with
  | cel => cases h1
  | _ => exact ih h2
theorem stok_of {kd : List (Nat × K3)} {ps : List (Nat × Pos)} (h : (ps.all fun x => isLoc kd x.1) = true) : (ps.all fun x => stok kd x.1) = true :=
 List.all_eq_true.mpr fun x hx => Bool.or_eq_true_iff.mpr (.inl (List.all_eq_true.mp h x hx))
theorem vc_snd (ok : Ok0) {Lv : Lvl} (I : SndE n Lv.ev) (X : SndX n Lv.ex) : SndV (n + 1) (vcS Lv) := by
 intro f vs b w A fv vals R rf r
 cases f with
 | cloX ps body kd mo cs =>
  obtain ⟨a, fd, rfl, e, c, z, rc, hc⟩ := rf
  refine Ev.gd fun hl => ?_
  have N : NewF n kd 0 cs b b w fd.code (fd.qualname ++ ".<locals>.") fd.closure A := ⟨R, Nat.le_refl b, c.nd, c.cells, c.inn, c.cov, fun q => absurd rfl q⟩
  have h := run_expr ok I ⟨e, rfl, c.body, c.scope, c.globals, c.builtins, rc⟩ N z (bnd_zip (kw := []) (df := []) r c.params c.dV c.psn hl (stok_of c.psl))
  rw [cellsM_noCel c.nocel] at h
  exact h
 | cloS ps body kd mo cs =>
  obtain ⟨a, fd, rfl, e, c, z, rc, hc⟩ := rf
  refine Ev.gd fun hl => ?_
  have N : NewF n kd 0 cs b b w fd.code (fd.qualname ++ ".<locals>.") fd.closure A := ⟨R, Nat.le_refl b, c.nd, c.cells, c.inn, c.cov, fun q => absurd rfl q⟩
  have h := run_snd ok X ⟨e, rfl, c.body, c.scope, c.globals, c.builtins, rc⟩ N z (bnd_zip (kw := []) (df := []) r c.params c.dV c.psn hl (stok_of c.psl))
  unfold runS at h
  rw [cellsM_noCel c.nocel] at h
  exact h
 | _ => exact Ev.none
end
theorem codeAmong_more {pos pos' : Pos} {c cv : Value} (l : List Value) (h : TriplesOk l) (e : codeAmong pos' (l ++ [rawInt pos.line, rawInt pos.col, c]) = some cv) : codeAmong pos' l = some cv ∨ cv = c := by
 fun_induction TriplesOk l with
 | case1 =>
  simp only [List.nil_append, codeAmong, rawInt] at e
  split at e
  ·cases e; exact .inr rfl
  ·exact nOp e
 | case2 a t b u x rest ih =>
  simp only [List.cons_append, codeAmong] at e ⊢
  split at e
  ·rename_i hc
   obtain rfl := sI1 e
   rw [if_pos hc]; exact .inl rfl
  ·rename_i hc
   rw [if_neg hc]; exact ih h e
 | case3 l h1 h2 => exact h.elim
theorem closureFor_of {scope : Scope} {env : Env} (hf : ∀ x ∈ scope.names, x.2 = .free → ∃ a, env.cells.lookup x.1 = some a) :
  ∃ cl, closureFor scope env = pure cl ∧ ∀ x ∈ scope.names, x.2 = .free → cl.lookup x.1 = env.cells.lookup x.1 := by
 have key : ∀ (names : List (Str × NameKind)) (acc : List (Str × Addr)) (f : Str × NameKind → List (Str × Addr) → Sem (ForInStep (List (Str × Addr)))),
   (∀ name kind cs, f (name, kind) cs = if (kind == .free) = true then (do let a ← cellOf env name; pure (.yield ((name, a) :: cs))) else pure (.yield cs)) →
   (∀ x ∈ names, x.2 = .free → ∃ a, env.cells.lookup x.1 = some a) → (∀ n a, acc.lookup n = some a → env.cells.lookup n = some a) →
   ∃ cl, forIn names acc f = pure cl ∧ (∀ n a, cl.lookup n = some a → env.cells.lookup n = some a) ∧ (∀ n a, acc.lookup n = some a → ∃ a, cl.lookup n = some a) ∧ ∀ x ∈ names, x.2 = .free → ∃ a, cl.lookup x.1 = some a := by
  intro names
  induction names with
  | nil => exact fun acc f _ _ ha => ⟨acc, List.forIn_nil .., ha, fun n a e => ⟨a, e⟩, fun x hx => nomatch hx⟩
  | cons x r ih =>
   intro acc f hf' hc ha
   obtain ⟨name, kind⟩ := x
   cases hk : kind == NameKind.free with
   | true =>
    have hkind : kind = .free := by cases kind <;> first | rfl | cases hk
    obtain ⟨a, e⟩ := hc (name, kind) (.head _) hkind
    have ha' : ∀ n a', ((name, a) :: acc).lookup n = some a' → env.cells.lookup n = some a' := fun n a' e' => by
     rw [List.lookup_cons] at e'
     cases q : n == name with
     | true => rw [q] at e'; cases e'; rw [beq_iff_eq.mp q]; exact e
     | false => rw [q] at e'; exact ha n a' e'
    obtain ⟨cl, h1, h2, h3, h4⟩ := ih ((name, a) :: acc) f hf' (fun x hx => hc x (.tail _ hx)) ha'
    have up : ∀ n a', acc.lookup n = some a' → ∃ a', cl.lookup n = some a' := fun n a' e' => by
     cases q : n == name with
     | true => exact h3 n a (by rw [List.lookup_cons, q])
     | false => exact h3 n a' (by rw [List.lookup_cons, q]; exact e')
    refine ⟨cl, ?_, h2, up, fun x hx hk => ?_⟩
    ·rw [List.forIn_cons, hf', hk]
     simp only [if_true, cellOf, e, pure_bind]
     exact h1
    ·cases hx with
     | head => exact h3 name a (by rw [List.lookup_cons, beq_self_eq_true])
     | tail _ hx => exact h4 x hx hk
   | false =>
    obtain ⟨cl, h1, h2, h3, h4⟩ := ih acc f hf' (fun x hx => hc x (.tail _ hx)) ha
    refine ⟨cl, ?_, h2, h3, fun x hx hk' => ?_⟩
    ·rw [List.forIn_cons, hf', hk]
     simp only [Bool.false_eq_true, if_false, pure_bind]
     exact h1
    ·cases hx with
     | head =>
      have hk' : kind = .free := hk'
      rw [hk'] at hk; cases hk
     | tail _ hx => exact h4 x hx hk'
 obtain ⟨cl, h1, h2, _, h4⟩ := key scope.names [] (fun x cs => if (x.2 == .free) = true then (do let a ← cellOf env x.1; pure (.yield ((x.1, a) :: cs))) else pure (.yield cs)) (fun _ _ _ => rfl) hf (fun n a e => nomatch e)
 refine ⟨cl, ?_, fun x hx hk => ?_⟩
 ·simp only [closureFor]
  have e : ∀ (f : Str × NameKind → List (Str × Addr) → Sem (ForInStep (List (Str × Addr)))), (∀ name kind cs, f (name, kind) cs = if (kind == .free) = true then (do let a ← cellOf env name; pure (.yield ((name, a) :: cs))) else pure (.yield cs)) → forIn scope.names [] f = pure cl := fun f hf' => by
   rw [← h1]; congr 1; funext x cs; obtain ⟨n, k⟩ := x; exact hf' n k cs
  rw [e _ (fun name kind cs => by cases hk : kind == NameKind.free <;> simp [hk])]
  rfl
 ·obtain ⟨a, e⟩ := h4 x hx hk
  rw [e, h2 _ _ e]
theorem lkp_filter {α : Type} (p : Nat → Bool) (k : Nat) : ∀ l : List (Nat × α), lkp k (l.filter fun x => p x.1) = if p k = true then lkp k l else none
 | [] => by split <;> rfl
 | (j, v) :: r => by
  have ih := lkp_filter p k r
  rw [List.filter_cons]
  cases hj : p j with
  | true =>
   rw [if_pos rfl]
   unfold lkp
   cases q : Nat.beq j k with
   | true =>
    have := Nat.eq_of_beq_eq_true q
    subst this
    rw [if_pos hj]
   | false => exact ih
  | false =>
   rw [if_neg Bool.false_ne_true, ih]
   split
   ·rename_i hk
    unfold lkp
    have : Nat.beq j k = false := by
     cases q : Nat.beq j k with
     | false => rfl
     | true =>
      have := Nat.eq_of_beq_eq_true q
      subst this
      rw [hj] at hk; cases hk
    rw [this]
    cases r <;> rfl
   ·rfl
section
variable {A : Around} {b : Nat} {L : Option Addr} {w w' w2 : Ws} {K : Kn} {lo lo' : Lo} {x u y : AV} {xs : List AV} {v v2 va vb : Value} {vs : List Value} {n : Nat}
theorem any_fre {kd : List (Nat × K3)} {k : Nat} : (kd.any fun y => Nat.beq y.1 k && (y.2 == .fre)) = true ↔ (k, K3.fre) ∈ kd := by
 rw [List.any_eq_true]
 constructor
 ·rintro ⟨⟨j, u⟩, hy, e⟩
  obtain ⟨e1, e2⟩ := and_split e
  cases Nat.eq_of_beq_eq_true e1
  cases eq_of_beq e2
  exact hy
 ·exact fun m => ⟨_, m, by rw [Nat.beq_refl]; rfl⟩
theorem lkp_free {kd : List (Nat × K3)} {ce : Ce} {k i : Nat} : lkp k (freeC kd ce) = some i ↔ (k, K3.fre) ∈ kd ∧ lkp k ce = some i := by
 have e : lkp k (freeC kd ce) = if (kd.any fun y => Nat.beq y.1 k && (y.2 == .fre)) = true then lkp k ce else none := lkp_filter (fun j => kd.any fun y => Nat.beq y.1 j && (y.2 == .fre)) k ce
 rw [e]
 split
 ·rename_i q; exact ⟨fun h => ⟨any_fre.mp q, h⟩, fun h => h.2⟩
 ·rename_i q; exact ⟨(fun h => nomatch h), fun h => absurd (any_fre.mpr h.1) q⟩
structure Inn (kd kd' : List (Nat × K3)) : Prop where
 nd : nodupK kd' = true
 nc : noCel kd' = true
 fre : ∀ k, (k, K3.fre) ∈ kd' → isCl kd k = true
theorem inn_of {kd kd' : List (Nat × K3)} (h : okIn kd kd' = true) : Inn kd kd' := ⟨(and_split h).1, (and_split (and_split h).2).1, fun k m => List.all_eq_true.mp (and_split (and_split h).2).2 _ m⟩
theorem Inn.cov {kd' : List (Nat × K3)} (h : Inn K.kd kd') (k : Nat) (m : (k, K3.fre) ∈ kd') : ∃ i, lkp k (freeC kd' K.ce) = some i := (K.cov k (h.fre k m)).imp fun _ e => lkp_free.mpr ⟨m, e⟩
theorem Inn.cl {kd kd' : List (Nat × K3)} {ce : Ce} (h : Inn kd kd') (k i : Nat) (e : lkp k (freeC kd' ce) = some i) : isCl kd' k = true := by
 unfold isCl
 rw [lkp_of_nodup h.nd (lkp_free.mp e).1]
theorem clos_snd (c : Conf K lo w) {kd' : List (Nat × K3)} (h : Inn K.kd kd') {mo : List (Str × Const)} : ∃ cl, closureFor (scopeOf kd' mo) K.env = pure cl ∧ ∀ k i, lkp k (freeC kd' K.ce) = some i → ∃ a, w.ρ[i]? = some a ∧ cl.lookup (nm k) = some a := by
 obtain ⟨cl, h1, h2⟩ := closureFor_of (scope := scopeOf kd' mo) (env := K.env) fun x hx hk => by
  obtain ⟨⟨j, u⟩, hy, rfl⟩ := List.mem_map.mp hx
  cases u <;> first | cases hk | skip
  obtain ⟨i, ei⟩ := K.cov j (h.fre j hy)
  obtain ⟨a, _, e2⟩ := c.cell j i ei
  exact ⟨a, e2⟩
 refine ⟨cl, h1, fun k i e => ?_⟩
 obtain ⟨m, e⟩ := lkp_free.mp e
 obtain ⟨a, ha, hl⟩ := c.cell k i e
 exact ⟨a, ha, (h2 (nm k, .free) (List.mem_map.mpr ⟨(k, .fre), m, rfl⟩) rfl).trans hl⟩
theorem Post.tab {h' : Heap} {Lz : Option Addr} (ok : Ok0) {x : Addr × Addr × Str} {ps : Array Value} (hx : x ∈ C0.T) (t : TabOk w.s.heap x ps) {pos : Pos} {c' : Addr} (he : Heap.ExtBut x.2.1 w.s.heap h')
  (hP : h'.get? x.2.1 = some (tabObj (ps ++ #[rawInt pos.line, rawInt pos.col, .ref c']))) (hr : h'.CodeRec (.ref c') x.2.2) (hc : ¬ C0.tabA c') : Post w.U b w.ρ Lz w.s.heap w.ρ w.H h' := by
 have kp : ∀ a o, w.s.heap.get? a = some o → ¬ C0.tabA a → h'.get? a = some o := fun a o e ht => he a o (fun q => ht ⟨x, hx, q.symm⟩) e
 have E : ∀ m (z : Option Addr), Evo m w.ρ z w.s.heap h' := fun m z => ⟨fun a o e => by
  by_cases q : a = x.2.1
  ·subst q; exact ⟨_, hP⟩
  ·exact ⟨o, he a o q e⟩, fun a o e _ ht _ => kp a o e ht⟩
 have m := Mv.mono w.S (E b none) Dic.none Ext.refl
 refine ⟨⟨fun a o e => kp a o (w.S.base a o e) fun ⟨y, hy, q⟩ => (nomatch (q ▸ (w.S.tabs y hy).1).symm.trans e), w.S.apart, w.S.nodup, w.S.len, fun i a ob e hn => (w.S.objs i a ob e hn).move m fun o ho => kp a o ho (w.S.noTab e), fun y hy => ?_, fun a ha => let ⟨o, e⟩ := w.S.hid a ha; (E b none).alive a o e⟩, E b Lz, Ext.refl, Fresh.refl⟩
 obtain ⟨t1, t2, ps', t'⟩ := w.S.tabs y hy
 by_cases q : y.2.1 = x.2.1
 ·obtain rfl := ok.tinj y hy x hx q
  refine ⟨t1, t2, _, hP, by rw [Array.toList_append]; exact TriplesOk_snoc _ _ _ _ t.trip, fun pos' cv e => ?_⟩
  rw [Array.toList_append] at e
  rcases codeAmong_more _ t.trip e with e | e
  ·obtain ⟨r, n⟩ := t.rec_ pos' cv e
   exact ⟨m.cd _ _ r n, n⟩
  ·subst e
   exact ⟨hr, fun c e => Value.ref.inj e ▸ hc⟩
 ·exact ⟨t1, t2, ps', he _ _ q t'.at_, t'.trip, fun pos' cv e => let ⟨r, n⟩ := t'.rec_ pos' cv e; ⟨m.cd _ _ r n, n⟩⟩
theorem Ws.notTab (w : Ws) {a : Addr} (ha : w.s.heap.objs.size ≤ a) : ¬ C0.tabA a := fun ⟨x, hx, q⟩ => by
 obtain ⟨_, _, ps, t⟩ := w.S.tabs x hx
 exact absurd (Heap.lt_size t.at_) (Nat.not_lt.mpr (q ▸ ha))
theorem Ok0.bat' (ok : Ok0) (w : Ws) {x : Addr × Addr × Str} (hx : x ∈ C0.T) : w.s.heap.BuiltinsAt C0.mg x.2.1 := by
 obtain ⟨bm, o, e1, e2, e3, e4, e5, e6, e7⟩ := ok.bat
 exact ⟨bm, o, e1, e2, e3, (fun q => nomatch (q ▸ (w.S.tabs x hx).1).symm.trans e4), w.S.base _ _ e4, e5, e6, e7⟩
theorem gP (ok : Ok0) (w : Ws) {x : Addr × Addr × Str} (hx : x ∈ C0.T) : mainGlobals ≠ x.2.1 := fun q => by
 obtain ⟨o, es, ep, e, _⟩ := ok.g
 exact nomatch (q ▸ (w.S.tabs x hx).1).symm.trans e
theorem made_fun {h' : Heap} {tk : Tok} {fd : FuncData} {ps : List (Nat × Pos)} {body : FuncBody} {okb : List (Nat × K3) → Bool} {kd' : List (Nat × K3)} {mo : List (Str × Const)} (h : Inn K.kd kd') (hcl : ∀ k i, lkp k (freeC kd' K.ce) = some i → ∃ a, w.ρ[i]? = some a ∧ fd.closure.lookup (nm k) = some a) (hps : (ps.all fun x => isLoc kd' x.1) = true) (hpn : nodupP ps = true) (hb : okb kd' = true)
  (po : Post w.U b w.ρ none w.s.heap w.ρ w.H h') (le : w.s.toks ≤ tk) (hr : h'.CodeRec fd.code fd.qualname) (hn : ∀ c, fd.code = .ref c → ¬ C0.tabA c) (e1 : fd.params = argsOf ps) (e2 : fd.body = body) (e3 : fd.scope = scopeOf kd' mo) (e4 : fd.globals = mainGlobals)
  (e5 : fd.builtins = builtinsNs) (e6 : fd.defaults = .none) : ∃ w', Le b none w w' ∧ w'.H = w.H ∧ w'.s = { w.s with heap := h'.push { cls := .type "function", data := .func fd }, toks := tk } ∧ CloR w'.ρ w'.s.heap ps body okb kd' mo (freeC kd' K.ce) (.ref h'.objs.size) := by
 have p2 := po.trans (Post.push po.S { cls := .type "function", data := .func fd })
 refine ⟨w.next p2 le, Le.next p2 le, rfl, rfl, _, fd, rfl, Heap.get?_push_size _ rfl, ⟨e1, e2, e3, e4, e5, e6, hcl, h.nd, h.nc, hps, hpn, h.cov, fun k i => h.cl k i⟩, hb, ?_, hn⟩
 obtain ⟨c, o, vs, t, q, e', hd, hv⟩ := hr
 exact ⟨c, o, vs, t, q, Heap.get?_push_of_some _ e', hd, hv⟩
theorem lam_snd (ok : Ok0) {ps : List (Nat × Pos)} {body : X} {kd' : List (Nat × K3)} {mo : List (Str × Const)} {p : Pos} (htq : K.tq = 1) (hin : okIn K.kd kd' = true) (hps : (ps.all fun x => isLoc kd' x.1) = true) (hpn : nodupP ps = true) (hb : body.ok C0.P kd' 0 = true)
  (c : Conf K lo w) : Ea K.A K.b w (eval (X.lam ps body kd' mo p).toE K.env) (some (.cloX ps body kd' mo (freeC kd' K.ce), w.H)) := by
 refine Op.some fun Q E k => ?_
 have hI := inn_of hin
 obtain ⟨cl, hcl, c1⟩ := clos_snd (mo := mo) c hI
 obtain ⟨x, hx, hcode, hname⟩ := K.tab (by rw [htq]; decide)
 rw [htq] at hname
 obtain ⟨t1, t2, tps, t⟩ := w.S.tabs x hx
 have hg : w.s.heap.Ns mainGlobals C0.mg := ns_at ok.g fun o e => w.S.base _ _ e
 refine kla_eval rfl ?_
 rw [show K.env.qual ++ "<lambda>" = x.2.2 from hname.symm]
 refine wpAny_with_toks (n := w.s.toks) (Nat.le_refl _) ?_
 have fin : ∀ {h' : Heap} {tk : Tok} {fd : FuncData}, w.s.toks ≤ tk → (fd.closure = cl) → Post w.U K.b w.ρ none w.s.heap w.ρ w.H h' → h'.CodeRec fd.code fd.qualname → (∀ c, fd.code = .ref c → ¬ C0.tabA c) → fd.params = argsOf ps → fd.body = .expr body.toE → fd.scope = scopeOf kd' mo → fd.globals = mainGlobals → fd.builtins = builtinsNs → fd.defaults = .none →
   Q (.ref h'.objs.size) { w.s with heap := h'.push { cls := .type "function", data := .func fd }, toks := tk } := fun le e0 po hr hn e1 e2 e3 e4 e5 e6 => by
  obtain ⟨w', l, eH, es, r⟩ := made_fun (okb := fun kd => body.ok C0.P kd 0) hI (e0 ▸ c1) hps hpn hb po le hr hn e1 e2 e3 e4 e5 e6
  exact es ▸ k w' _ l ⟨eH, r⟩
 cases hf : codeAmong p tps.toList with
 | none =>
  exact kla_makeFunction hcl K.globals hg hcode (t2.keeps w.S.base) t.at_ t.trip hf (gP ok w hx) (ok.bat' w hx) fun c' ctv h' tk he hge hlt hr hP le =>
   fin le rfl (Post.tab ok hx t he hP hr (w.notTab hge)) hr (fun c1 e1 => Value.ref.inj e1 ▸ w.notTab hge) rfl rfl rfl rfl rfl rfl
 | some cv =>
  obtain ⟨hr, hn⟩ := t.rec_ p cv hf
  refine kla_makeFunctionHit hcl K.globals hg hcode (t2.keeps w.S.base) t.at_ t.trip hf (ok.bat' w hx) fun ctv h' tk hk hsz le => ?_
  obtain ⟨c0, o, vs, t', q, e', hd, hv⟩ := hr
  exact fin le rfl (Post.keep w.S hk) ⟨c0, o, vs, t', q, hk _ _ e', hd, hv⟩ hn rfl rfl rfl rfl rfl rfl
variable {ev : X → Lo → Ce → Nat → St → Option (AV × St)}
noncomputable def kwT (env : Env) (p : Pos) : List Kw → List (Option Str × Sem Value)
 | [] => []
 | .mk k x _ :: r => (some (nm k), do let v ← eval x.toE env; standAt p; pure v) :: kwT env p r
theorem back_kws (env : Env) (p : Pos) : ∀ kw : List Kw, backToKw p (keywordEach (toKs kw) env) = kwT env p kw
 | [] => rfl
 | .mk k x q :: r => by
  have := back_kws env p r
  show (some (nm k), _) :: backToKw p (keywordEach (toKs r) env) = _
  rw [this]; rfl
theorem kwT_some (env : Env) (p : Pos) : ∀ kw : List Kw, (kwT env p kw).all (·.1.isSome) = true
 | [] => rfl
 | .mk k x q :: r => by
  show (true && (kwT env p r).all _) = true
  rw [kwT_some env p r]; rfl
noncomputable def KwR (env : Env) (p : Pos) (kw : List Kw) (w : Ws) (ks : List (Nat × AV)) (vs : List Value) : Prop := (kwT env p kw).filterMap (·.1) = (ks.map fun k => nm k.1) ∧ VRs w (ks.map (·.2)) vs
theorem kws_snd (I : SndE n ev) (hn : n ≤ K.n) (p : Pos) : ∀ {kw : List Kw} {w : Ws}, okKs C0.P K.kd K.tq kw = true → Conf K lo w → Ev K.b none (Pr (KwR K.env p kw)) w (wq K.A (evalAll ((kwT K.env p kw).map (·.2))) w) (evk (fun x H => ev x lo K.ce K.b H) kw w.H) := by
 intro kw
 induction kw with
 | nil => exact fun _ c => Op.some fun Q E q => wpAny_evalAll_nil (q _ [] Le.refl ⟨rfl, rfl, rfl⟩)
 | cons x r ih =>
  intro w h1 c
  obtain ⟨j, x, q⟩ := x
  refine Ev.bind (I x K lo w hn (and_split h1).1 c) (G := fun v s Q E => wpAny M0 K.A (evalAll ((kwT K.env p r).map (·.2))) (fun vs s => Q (v :: vs) s) E s) (fun Q E h => wpAny_evalAll_cons (wpAny_bind (wpAny_mono h (fun _ _ h => wpAny_bind (wpAny_standAt (wpAny_pure h))) fun _ _ e => e)))
   fun w1 u val l1 r1 => Ev.bind (G := fun vs s Q E => Q (val :: vs) s) (ih (and_split h1).2 (c.up l1)) (fun Q E h => h) fun w2 ks vals l2 r2 => Op.some fun Q E q => q w2 (val :: vals) Le.refl ⟨rfl, congrArg (nm j :: ·) r2.1, _, _, rfl, r1.up l2, r2.2⟩
theorem evalArgs_all {f : Value} {p : Pos} {ys : List X} {kw : List Kw} {Q : Args → Shared → Prop} {E : Value → Shared → Prop} (k : wpAny M0 A (spliced (ys.map fun x => (false, eval x.toE K.env))) (fun vals s => wpAny M0 A (evalAll ((kwT K.env p kw).map (·.2))) (fun kvals s => Q ⟨vals, ((kwT K.env p kw).filterMap (·.1)).zip kvals⟩ s) E s) E w.s) :
  wpAny M0 A (evalArgs f true (ys.map fun x => (false, eval x.toE K.env)) (kwT K.env p kw)) Q E w.s := by
 cases ys with
 | nil =>
  unfold evalArgs
  show wpAny M0 A (spliced [] >>= _) Q E w.s
  refine wpAny_bind (wpAny_mono k (fun vs s₁ h₁ => ?_) fun _ _ e => e)
  refine wpAny_bind (wpAny_pure (wpAny_holding ?_))
  simp only [kwT_some, if_true]
  refine wpAny_bind (wpAny_mono h₁ (fun ks s₂ h₂ => ?_) fun _ _ x => x)
  exact wpAny_bind (wpAny_pure (wpAny_pure h₂))
 | cons x r => exact evalArgs_kw (kwT_some K.env p kw) k
theorem gcall_snd {cl : Nat → List AV → List (Nat × AV) → Nat → St → Option (AV × St)} (ok : Ok0) (I : SndE n ev) (J : SndC n cl) (hn : n ≤ K.n) {f k : Nat} {ys : List X} {kw : List Kw} {np p : Pos} (h13 : f ≠ 13) (h20 : f ≠ 20) (hg : isG K.kd k = true) (hf : (match nth C0.P f with | some fn => Nat.beq fn.nmk k | none => false) = true)
  (ha : okXs K ys) (hk : okKs C0.P K.kd K.tq kw = true) (c : Conf K lo w) : Ea K.A K.b w (eval (X.gcall f k ys kw np p).toE K.env) (ob2 (evs (fun x H => ev x lo K.ce K.b H) ys w.H) fun vs H => ob2 (evk (fun x H => ev x lo K.ce K.b H) kw H) fun ks H => cl f vs ks K.b H) := by
 split at hf
 ·rename_i fn hfn
  obtain rfl := Nat.eq_of_beq_eq_true hf
  obtain ⟨fa, o, fd, F⟩ := ok.fn f fn hfn
  refine Ev.bind (args_snd I hn ha c) (G := fun vals s Q E => wpAny M0 K.A (evalAll ((kwT K.env p kw).map (·.2))) (fun kvals s => (s.heap.get? fa = some o ∧ o.data = .func fd) ∧ wpAny M0 K.A (call (.ref fa) vals (((kwT K.env p kw).filterMap (·.1)).zip kvals)) Q E s) E s) (fun Q E h => ?_)
   fun w1 vs vals l1 r1 => Ev.bd (kws_snd I hn p hk (c.up l1)) fun w2 ks kvals l2 r2 => Ev.to (J f vs ks K.b w2 fn fa o fd K.A vals kvals hfn F h13 h20 (K.R.le hn) (r1.up l2) r2.2) fun Q E h => ⟨⟨w2.S.base _ _ F.at_, F.data⟩, r2.1 ▸ h⟩
  show wpAny _ _ (do callWith p (← eval (.Name (nm fn.nmk) np) K.env) [] (backTo p (starEach (toEs ys) K.env)) (backToKw p (keywordEach (toKs kw) K.env))) Q E w.s
  rw [back_args K.env p ys ha, back_kws]
  refine wpAny_bind (wpAny_Name (glb_load ok hg (.inl F.name) _ E ?_) (nm_debug _))
  exact callWith_function_kw (o := o) (fd := fd) (evalArgs_all h)
 ·cases hf
theorem vcall_snd {vc : AV → List AV → Nat → St → Option (AV × St)} (I : SndE n ev) (J : SndV n vc) (hn : n ≤ K.n) {k : Nat} {ys : List X} {np p : Pos} (hv : isV K.kd k = true) (ha : okXs K ys) (c : Conf K lo w) :
  Ea K.A K.b w (eval (X.vcall k ys np p).toE K.env) (ob1 (varM k lo K.ce w.H) fun f => gd (isClo f) <| ob2 (evs (fun x H => ev x lo K.ce K.b H) ys w.H) fun vs H => vc f vs K.b H) := by
 refine Ev.ob1 fun f ef => Ev.gd fun hcl => ?_
 obtain ⟨fv, rf, load⟩ := var_load (A := K.A) c hv f ef
 have key : ∃ a fd, fv = .ref a ∧ FunAt w.s.heap a fd := by
  cases f with
  | cloX => obtain ⟨a, fd, e, e2, _⟩ := rf; exact ⟨a, fd, e, e2⟩
  | cloS => obtain ⟨a, fd, e, e2, _⟩ := rf; exact ⟨a, fd, e, e2⟩
  | _ => cases hcl
 obtain ⟨a, fd, rfl, hfa⟩ := key
 refine Ev.bind (args_snd I hn ha c) (G := fun vals s Q E => (s.heap.get? a = some { cls := .type "function", data := .func fd } ∧ Data.func fd = .func fd) ∧ wpAny M0 K.A (call (.ref a) vals []) Q E s) (fun Q E h => ?_) fun w1 vs vals l1 r1 =>
  Ev.to (J f vs K.b w1 K.A (.ref a) vals (K.R.le hn) (rf.up l1) r1) fun Q E h => ⟨⟨keepFirm w.S l1.p.E Dic.none hfa rfl, rfl⟩, h⟩
 show wpAny _ _ (do callWith p (← eval (.Name (nm k) np) K.env) [] (backTo p (starEach (toEs ys) K.env)) (backToKw p (keywordEach [] K.env))) Q E w.s
 rw [back_args K.env p ys ha]
 exact wpAny_bind (wpAny_Name (load _ E (callWith_function_kw (evalArgs_list _ E h))) (nm_debug _))
end
end Mine
end
section
open PySem PySem.W PyProof.Rows
open PySem.SeqAt PySem.Builtin
open PySem.Builtin.SmallTypes (nextOf)
open AutoSeq1 (wpAny_loadPart')
namespace Mine
inductive BIt (h : Heap) (it l : Addr) (items : Array Value) (k : Nat) : Prop
 | lst : h.IsListIter it l k → h.IsList l items → BIt h it l items k
 | tup : h.IsTupleIter it l k → h.IsTuple l items → BIt h it l items k
theorem BIt.at {h h' : Heap} {it l : Addr} {items : Array Value} {k : Nat} (x : BIt h it l items k) (h1 : ∀ o, h.get? it = some o → h'.get? it = some o) (h2 : ∀ o, h.get? l = some o → h'.get? l = some o) : BIt h' it l items k := by
 cases x with
 | lst a c => exact .lst (a.at h1) (c.at h2)
 | tup a c =>
  obtain ⟨o, e, r⟩ := a
  obtain ⟨o', e', r'⟩ := c
  exact .tup ⟨o, h1 o e, r⟩ ⟨o', h2 o' e', r'⟩
theorem BIt.get {h : Heap} {it l : Addr} {items : Array Value} {k : Nat} (x : BIt h it l items k) : (∃ o, h.get? it = some o ∧ (o.cls = .type "list_iterator" ∨ o.cls = .type "tuple_iterator") ∧ o.data = .fields #[.ref l, .int k 0]) ∧ ∃ o, h.get? l = some o ∧ ∃ n, o.data = .seq items n := by
 cases x with
 | lst a c =>
  obtain ⟨o, e, c1, d⟩ := a
  obtain ⟨o', e', c', n, d'⟩ := c
  exact ⟨⟨o, e, .inl c1, d⟩, o', e', n, d'⟩
 | tup a c =>
  obtain ⟨o, e, c1, d⟩ := a
  obtain ⟨o', e', c', n, d'⟩ := c
  exact ⟨⟨o, e, .inr c1, d⟩, o', e', n, d'⟩
theorem BIt.ne {h : Heap} {it l : Addr} {items : Array Value} {k : Nat} (x : BIt h it l items k) : l ≠ it := fun q => by
 obtain ⟨⟨o, e, _, d⟩, o', e', n, d'⟩ := x.get
 rw [q, e] at e'; cases e'
 rw [d] at d'; cases d'
section
variable {A : Around} {E : Value → Shared → Prop} {s : Shared} {it l : Addr} {items : Array Value} {k : Nat}
theorem nextOf_tup_item {x : Value} {Q : Value → Shared → Prop} (hit : s.heap.IsTupleIter it l k) (hl : s.heap.IsTuple l items) (hx : items[k]? = some x)
  (hQ : ∀ h', h'.IsTupleIter it l (k + 1) → Heap.SameBut it s.heap h' → Q x { s with heap := h' }) : wpAny (M0) A (nextOf (.ref it)) Q E s := by
 obtain ⟨o, ho, hc, hd⟩ := id hit
 obtain ⟨ol, hol, _, nl, hdl⟩ := hl
 unfold nextOf
 refine wpAny_bind (wpAny_callSpecial?_slot (name := Str.ofString "__next__") hit.typeIs F.slot_tuple_iterator_next (wpAny_call_entry F.slot_tuple_iterator_next hit.typeIs F.entry_tuple_iterator_next ?_ (F.args_tuple_iterator_next_1 _)))
 show wpAny _ _ (field (.ref it) 0 >>= _) _ _ s
 refine wpAny_bind (wpAny_field ho hd (x := .ref l) rfl ?_)
 show wpAny _ _ (if (Value.ref l == Value.none) = true then _ else _) _ _ s
 rw [if_neg (show ¬ ((Value.ref l == Value.none) = true) from Bool.false_ne_true)]
 show wpAny _ _ (field (.ref it) 1 >>= _) _ _ s
 refine wpAny_bind (wpAny_field ho hd (x := .int k 0) rfl ?_)
 show wpAny _ _ (seqItems? (.ref l) >>= _) _ _ s
 refine wpAny_bind (wpAny_seqItems hol hdl ?_)
 simp only [Int.toNat_natCast, hx]
 refine wpAny_bind (wpAny_setField ho hd (by simp) (wpAny_pure ⟨x, rfl, wpAny_pure (hQ _ ⟨_, Heap.get?_update_self _ ho (Obj.isFreed_of_fields (Obj.data_mapFields hd _)), (Obj.cls_mapFields ..).trans hc, ?_⟩ (Heap.SameBut.update ..))⟩))
 rw [Obj.data_mapFields hd]; simp [rawInt]
theorem nextOf_tup_end {Q : Value → Shared → Prop} (hh : A.handled = none) (hit : s.heap.IsTupleIter it l k) (hl : s.heap.IsTuple l items) (hx : items[k]? = none)
  (hE : ∀ h' e, Heap.ExtBut it s.heap h' → (∃ o, h'.get? e = some o ∧ o.cls = .type "StopIteration") → E (.ref e) { s with heap := h' }) : wpAny (M0) A (nextOf (.ref it)) Q E s := by
 obtain ⟨o, ho, hc, hd⟩ := id hit
 obtain ⟨ol, hol, _, nl, hdl⟩ := hl
 unfold nextOf
 refine wpAny_bind (wpAny_callSpecial?_slot (name := Str.ofString "__next__") hit.typeIs F.slot_tuple_iterator_next (wpAny_call_entry F.slot_tuple_iterator_next hit.typeIs F.entry_tuple_iterator_next ?_ (F.args_tuple_iterator_next_1 _)))
 show wpAny _ _ (field (.ref it) 0 >>= _) _ _ s
 refine wpAny_bind (wpAny_field ho hd (x := .ref l) rfl ?_)
 show wpAny _ _ (if (Value.ref l == Value.none) = true then _ else _) _ _ s
 rw [if_neg (show ¬ ((Value.ref l == Value.none) = true) from Bool.false_ne_true)]
 show wpAny _ _ (field (.ref it) 1 >>= _) _ _ s
 refine wpAny_bind (wpAny_field ho hd (x := .int k 0) rfl ?_)
 show wpAny _ _ (seqItems? (.ref l) >>= _) _ _ s
 refine wpAny_bind (wpAny_seqItems hol hdl ?_)
 simp only [Int.toNat_natCast, hx]
 refine wpAny_bind (wpAny_rule (wpAny_bind (wpAny_setField ho hd (by simp) ?_)))
 show wpAny _ _ (newExc (.type "StopIteration") [] >>= _) _ _ _
 refine wpAny_bind ?_
 simp only [newExc, newTuple]
 refine wpAny_bind (wpAny_newObj_type ?_ (by size_fits))
 refine wpAny_bind (m := firstArgMember _ _) (wpAny_of_eq (a := Value.none) (by first | rfl | (simp only [firstArgMember]; rfl)) ?_)
 refine wpAny_newObj_type ?_ (by size_fits)
 simp only [raiseNew]
 refine wpAny_bind (wpAny_handled ?_)
 first | rw [show A.in1.handled = none from hh] | rw [hh]
 exact wpAny_bind (wpAny_pure (wpAny_throw (hE _ _ (((Heap.SameBut.update ..).extBut.push _).push _) ⟨_, Heap.get?_push_size _ rfl, rfl⟩)))
theorem BIt.item {x : Value} {Q : Value → Shared → Prop} (b : BIt s.heap it l items k) (hx : items[k]? = some x) (hQ : ∀ h', BIt h' it l items (k + 1) → Heap.SameBut it s.heap h' → Q x { s with heap := h' }) :
  wpAny (M0) A (nextOf (.ref it)) Q E s := by
 have hne := b.ne
 cases b with
 | lst a c => exact wpAny_nextOf_list_item a c hx fun h' a' s' => hQ h' (.lst a' (c.extBut s'.extBut hne)) s'
 | tup a c => exact nextOf_tup_item a c hx fun h' a' s' => hQ h' (.tup a' (c.extBut s'.extBut hne)) s'
theorem BIt.done {Q : Value → Shared → Prop} (hh : A.handled = none) (b : BIt s.heap it l items k) (hx : items[k]? = none) (hE : ∀ h' e, Heap.ExtBut it s.heap h' → (∃ o, h'.get? e = some o ∧ o.cls = .type "StopIteration") → E (.ref e) { s with heap := h' }) :
  wpAny (M0) A (nextOf (.ref it)) Q E s := by
 cases b with
 | lst a c => exact wpAny_nextOf_list_end hh a c hx hE
 | tup a c => exact nextOf_tup_end hh a c hx hE
theorem BIt.next {x : Value} {Q : Option Value → Shared → Prop} (b : BIt s.heap it l items k) (hx : items[k]? = some x) (hQ : ∀ h', BIt h' it l items (k + 1) → Heap.SameBut it s.heap h' → Q (some x) { s with heap := h' }) :
  wpAny (M0) A (pyNext (.ref it)) Q E s := by
 have hne := b.ne
 cases b with
 | lst a c => exact wpAny_pyNext_list_item a c hx fun h' a' s' => hQ h' (.lst a' (c.extBut s'.extBut hne)) s'
 | tup a c => exact wpAny_pyNext_tuple_item a c hx fun h' a' s' => hQ h' (.tup a' (c.extBut s'.extBut hne)) s'
theorem BIt.stop {Q : Option Value → Shared → Prop} (hh : A.handled = none) (b : BIt s.heap it l items k) (hx : items[k]? = none) (hQ : ∀ h', Heap.ExtBut it s.heap h' → Q none { s with heap := h' }) :
  wpAny (M0) A (pyNext (.ref it)) Q E s := by
 cases b with
 | lst a c => exact wpAny_pyNext_list_end hh a c hx hQ
 | tup a c => exact wpAny_pyNext_tuple_end hh a c hx hQ
end
theorem BIt.draws {A : Around} (hh : A.handled = none) (it l : Addr) (items : Array Value) :
  Draws C0.prog C0.w A it [it, l] items.size (fun i v => items[i]? = some v) (fun i h => BIt h it l items i) where
 live := fun _ _ st => let ⟨⟨o, ho, _⟩, _⟩ := st.get; ⟨o, ho⟩
 frame := fun _ _ _ st hk => st.at (hk it (by simp)) (hk l (by simp))
 item := fun i s Q E hi st hQ => by
  refine st.item (x := items[i]) (by simp [hi]) fun h' st' hs' => ?_
  exact hQ _ h' s.toks (by simp [hi]) st' hs'
 done := fun s Q E st hE => st.done hh (by simp) hE
structure Cont (h : Heap) (l : Addr) (items : Array Value) (T : String) : Prop where
 T : (T = "list" ∧ h.IsList l items) ∨ (T = "tuple" ∧ h.IsTuple l items)
noncomputable def itName (T : String) : String := T ++ "_iterator"
theorem Cont.lists {h : Heap} {l : Addr} {items : Array Value} (x : h.IsList l items) : Cont h l items "list" := ⟨.inl ⟨rfl, x⟩⟩
theorem Cont.tuples {h : Heap} {l : Addr} {items : Array Value} (x : h.IsTuple l items) : Cont h l items "tuple" := ⟨.inr ⟨rfl, x⟩⟩
section
variable {A : Around} {E : Value → Shared → Prop} {s : Shared} {l l2 : Addr} {items ys : Array Value} {T T2 : String}
theorem Cont.pyIter {prog : Program} {w : World} (cc : Cont s.heap l items T) {Q : Value → Shared → Prop} (hQ : Q (.ref s.heap.objs.size) { s with heap := s.heap.push { cls := .type (itName T), data := .fields #[.ref l, .int 0 0] } }) : wpAny (model prog w) A (pyIter (.ref l)) Q E s := by
 rcases cc.T with ⟨rfl, c⟩ | ⟨rfl, c⟩
 ·exact wpAny_pyIter_list c hQ
 ·exact wpAny_pyIter_tuple c hQ
theorem Cont.bit {h h' : Heap} {it : Addr} (cc : Cont h l items T) (e : h'.get? it = some { cls := .type (itName T), data := .fields #[.ref l, .int 0 0] }) (k : ∀ o, h.get? l = some o → h'.get? l = some o) : BIt h' it l items 0 := by
 rcases cc.T with ⟨rfl, c⟩ | ⟨rfl, c⟩
 ·exact .lst ⟨_, e, rfl, rfl⟩ (c.at k)
 ·obtain ⟨o, e', r⟩ := c
  exact .tup ⟨_, e, rfl, rfl⟩ ⟨o, k o e', r⟩
theorem Cont.push {h : Heap} (cc : Cont h l items T) (o : Obj) : Cont (h.push o) l items T := by
 rcases cc.T with ⟨rfl, c⟩ | ⟨rfl, c⟩
 ·exact .lists (c.push o)
 ·exact .tuples (c.push o)
end
theorem meets_enum (l : Addr) (items : Array Value) :
  Meets (Builtin.«enumerate.__new__» ⟨[.type "enumerate", .ref l], []⟩) (fun _ R s => s.heap.IsTuple l items ∧
   R (.ok (.ret (.ref (s.heap.push { cls := .type "tuple_iterator", data := .fields #[.ref l, .int 0 0] }).objs.size)))
    { s with heap := (s.heap.push { cls := .type "tuple_iterator", data := .fields #[.ref l, .int 0 0] }).push { cls := .type "enumerate", data := .fields #[.none, .bool false, .ref s.heap.objs.size, rawInt 0, .none, .none] } }) :=
 .of_wp fun prog w A R s h => by
  obtain ⟨hp, g, d, tk, os⟩ := s; obtain ⟨hl, h⟩ := h
  have hsub := sub_enumerate
  have hL : Heap.IsTuple (Shared.heap ⟨hp, g, d, tk, os⟩) l items := hl
  obtain ⟨⟨c, dct, dt, sl⟩, hl, hc, n, hd⟩ := hl
  replace hc : c = .type "tuple" := hc
  replace hd : dt = .seq items n := hd
  subst hc hd
  wp_walk using wpAny_loadPart' hl
  refine wpAny_stack_any fun st => wpAny_pure ?_
  split
  ·rename_i c _ _ _ _ _
   cases (c == Value.type "enumerate")
   ·wp_walk using wpAny_loadPart' hl, wpAny_pyIter_tuple hL
    exact ⟨_, rfl, h⟩
   ·wp_walk using wpAny_loadPart' hl, wpAny_pyIter_tuple hL
    exact ⟨_, rfl, h⟩
  ·wp_walk using wpAny_loadPart' hl, wpAny_pyIter_tuple hL
   exact ⟨_, rfl, h⟩
section
variable {A : Around} {E : Value → Shared → Prop} {s : Shared} {l l2 : Addr} {items ys : Array Value} {T T2 : String}
theorem call_enum (cc : Cont s.heap l items T) {Q : Value → Shared → Prop}
  (h : ∀ h', IsEnum h' (s.heap.objs.size + 1) s.heap.objs.size 0 .none → BIt h' s.heap.objs.size l items 0 → h'.objs.size = s.heap.objs.size + 2 →
   (∀ b o, s.heap.get? b = some o → h'.get? b = some o) → Q (.ref (s.heap.objs.size + 1)) { s with heap := h' }) :
  wpAny (M0) A (call (.type "enumerate") [.ref l]) Q E s := by
 rcases cc.T with ⟨rfl, c⟩ | ⟨rfl, c⟩
 ·exact call_enumerate_list c fun h' a1 a2 a3 a4 => h h' a1 (.lst a2 (c.at (a4 l))) a3 a4
 ·refine callType_new F.called_enumerate (by decide) (F.typeCall_enumerate_1 _) (F.newCall_enumerate_1 _) (fun obj => F.args_object_init_2 obj _) F.entry_enumerate_new (meets_enum l items) ⟨c, ?_⟩
  have hz : (s.heap.push { cls := .type "tuple_iterator", data := .fields #[.ref l, .int 0 0] }).objs.size = s.heap.objs.size + 1 := Heap.size_push ..
  have he := Heap.get?_push_size (s.heap.push { cls := .type "tuple_iterator", data := .fields #[.ref l, .int 0 0] }) (o := { cls := .type "enumerate", data := .fields #[.none, .bool false, .ref s.heap.objs.size, rawInt 0, .none, .none] }) rfl
  show _ ∧ _
  rw [hz] at he ⊢
  have kp : ∀ b o, s.heap.get? b = some o → ((s.heap.push { cls := .type "tuple_iterator", data := .fields #[.ref l, .int 0 0] }).push { cls := .type "enumerate", data := .fields #[.none, .bool false, .ref s.heap.objs.size, rawInt 0, .none, .none] }).get? b = some o :=
   fun b o x => Heap.get?_push_of_some _ (Heap.get?_push_of_some _ x)
  obtain ⟨o, e', r⟩ := c
  exact ⟨⟨_, he, rfl⟩, h _ he (.tup ⟨_, Heap.get?_push_of_some _ (Heap.get?_push_size _ rfl), rfl, rfl⟩ ⟨o, kp _ _ e', r⟩) (by rw [Heap.size_push, hz]) kp⟩
end
end Mine
end
section
open PySem PySem.W PyProof.Rows
open PySem.SeqAt PySem.Builtin
open PySem.Builtin.SmallTypes (nextOf)
namespace Mine
noncomputable abbrev zH1 (h : Heap) (l1 : Addr) (T1 : String) : Heap := h.push { cls := .type (itName T1), data := .fields #[.ref l1, .int 0 0] }
noncomputable abbrev zH2 (h : Heap) (l1 l2 : Addr) (T1 T2 : String) : Heap := (zH1 h l1 T1).push { cls := .type (itName T2), data := .fields #[.ref l2, .int 0 0] }
noncomputable abbrev zH3 (h : Heap) (l1 l2 : Addr) (T1 T2 : String) : Heap := (zH2 h l1 l2 T1 T2).push { cls := .type "tuple", data := .seq #[.ref h.objs.size, .ref (zH1 h l1 T1).objs.size] }
noncomputable abbrev zH4 (h : Heap) (l1 l2 : Addr) (T1 T2 : String) : Heap := (zH3 h l1 l2 T1 T2).push { cls := .type "tuple", data := .seq #[.none, .none] }
noncomputable abbrev zH5 (h : Heap) (l1 l2 : Addr) (T1 T2 : String) : Heap := (zH4 h l1 l2 T1 T2).push { cls := .type "zip", data := .fields #[.none, .bool false, .bool false, .ref (zH2 h l1 l2 T1 T2).objs.size, .ref (zH3 h l1 l2 T1 T2).objs.size] }
theorem meets_zip (l1 l2 : Addr) (xs ys : Array Value) (T1 T2 : String) :
  Meets (Builtin.«zip.__new__» ⟨[.type "zip", .ref l1, .ref l2], []⟩) (fun _ R s => Cont s.heap l1 xs T1 ∧ Cont s.heap l2 ys T2 ∧
   R (.ok (.ret (.ref (zH4 s.heap l1 l2 T1 T2).objs.size))) { s with heap := zH5 s.heap l1 l2 T1 T2 }) :=
 .of_wp fun prog w A R s h => by
  obtain ⟨hp, g, d, tk, os⟩ := s; obtain ⟨hl1, hl2, h⟩ := h
  have hsub := sub_zip
  have c1 : Cont (Shared.heap ⟨hp, g, d, tk, os⟩) l1 xs T1 := hl1
  have c2 : Cont (Shared.heap ⟨hp.push { cls := .type (itName T1), data := .fields #[.ref l1, .int 0 0] }, g, d, tk, os⟩) l2 ys T2 := hl2.push _
  wp_walk using Cont.pyIter c1, Cont.pyIter c2
  exact ⟨_, rfl, h⟩
section
variable {A : Around} {E : Value → Shared → Prop} {s : Shared}
theorem call_zip {l1 l2 : Addr} {xs ys : Array Value} {T1 T2 : String} {Q : Value → Shared → Prop} (c1 : Cont s.heap l1 xs T1) (c2 : Cont s.heap l2 ys T2)
  (h : ∀ h', IsZip h' (s.heap.objs.size + 4) (s.heap.objs.size + 2) (s.heap.objs.size + 3) .none → IsPair h' (s.heap.objs.size + 2) (.ref s.heap.objs.size) (.ref (s.heap.objs.size + 1)) →
   IsPair h' (s.heap.objs.size + 3) .none .none → BIt h' s.heap.objs.size l1 xs 0 → BIt h' (s.heap.objs.size + 1) l2 ys 0 → h'.objs.size = s.heap.objs.size + 5 →
   (∀ c o, s.heap.get? c = some o → h'.get? c = some o) → Q (.ref (s.heap.objs.size + 4)) { s with heap := h' }) :
  wpAny (M0) A (call (.type "zip") [.ref l1, .ref l2]) Q E s := by
 refine callType_new F.called_zip (by decide) (F.typeCall_zip_2 _ _) (F.newCall_zip_2 _ _) (fun obj => F.args_object_init_3 obj _ _) F.entry_zip_new (meets_zip l1 l2 xs ys T1 T2) ⟨c1, c2, ?_⟩
 have z1 : (zH1 s.heap l1 T1).objs.size = s.heap.objs.size + 1 := Heap.size_push ..
 have z2 : (zH2 s.heap l1 l2 T1 T2).objs.size = s.heap.objs.size + 2 := by rw [Heap.size_push, z1]
 have z3 : (zH3 s.heap l1 l2 T1 T2).objs.size = s.heap.objs.size + 3 := by rw [Heap.size_push, z2]
 have z4 : (zH4 s.heap l1 l2 T1 T2).objs.size = s.heap.objs.size + 4 := by rw [Heap.size_push, z3]
 have z5 : (zH5 s.heap l1 l2 T1 T2).objs.size = s.heap.objs.size + 5 := by rw [Heap.size_push, z4]
 have u : ∀ {h : Heap} {a : Addr} {o : Obj} (p : Obj), h.get? a = some o → (h.push p).get? a = some o := fun p e => Heap.get?_push_of_some p e
 have g5 : (zH5 s.heap l1 l2 T1 T2).get? (zH4 s.heap l1 l2 T1 T2).objs.size = some _ := Heap.get?_push_size _ rfl
 have g4 : (zH5 s.heap l1 l2 T1 T2).get? (zH3 s.heap l1 l2 T1 T2).objs.size = some _ := u _ (Heap.get?_push_size _ rfl)
 have g3 : (zH5 s.heap l1 l2 T1 T2).get? (zH2 s.heap l1 l2 T1 T2).objs.size = some _ := u _ (u _ (Heap.get?_push_size _ rfl))
 have g2 : (zH5 s.heap l1 l2 T1 T2).get? (zH1 s.heap l1 T1).objs.size = some _ := u _ (u _ (u _ (Heap.get?_push_size _ rfl)))
 have g1 : (zH5 s.heap l1 l2 T1 T2).get? s.heap.objs.size = some _ := u _ (u _ (u _ (u _ (Heap.get?_push_size _ rfl))))
 have kp : ∀ c o, s.heap.get? c = some o → (zH5 s.heap l1 l2 T1 T2).get? c = some o := fun c o x => u _ (u _ (u _ (u _ (u _ x))))
 show _ ∧ _
 rw [z2, z3, z4] at g5
 rw [z1, z2] at g3
 rw [z3] at g4
 rw [z1] at g2
 rw [z4]
 exact ⟨⟨_, g5, rfl⟩, h _ g5 g3 g4 (c1.bit g1 (kp l1)) (c2.bit g2 (kp l2)) z5 kp⟩
structure Apt (z TI TO i1 i2 l1 l2 : Addr) : Prop where
 TIz : TI ≠ z
 TOz : TO ≠ z
 i1z : i1 ≠ z
 i2z : i2 ≠ z
 TITO : TI ≠ TO
 TIi1 : TI ≠ i1
 TIi2 : TI ≠ i2
 TOi1 : TO ≠ i1
 TOi2 : TO ≠ i2
 i12 : i1 ≠ i2
 l1z : l1 ≠ z
 l1TO : l1 ≠ TO
 l1i1 : l1 ≠ i1
 l1i2 : l1 ≠ i2
 l2z : l2 ≠ z
 l2TO : l2 ≠ TO
 l2i1 : l2 ≠ i1
 l2i2 : l2 ≠ i2
theorem zip_item {z TI TO i1 i2 l1 l2 : Addr} {k1 k2 : Nat} {xs ys : Array Value} {x y a b : Value} {Q : Value → Shared → Prop} (D : Apt z TI TO i1 i2 l1 l2)
  (hz : IsZip s.heap z TI TO .none) (hTI : IsPair s.heap TI (.ref i1) (.ref i2)) (hTO : IsPair s.heap TO a b) (b1 : BIt s.heap i1 l1 xs k1) (b2 : BIt s.heap i2 l2 ys k2) (hx : xs[k1]? = some x) (hy : ys[k2]? = some y)
  (hQ : ∀ h', IsZip h' z TI TO (rawInt s.heap.objs.size) → IsPair h' TI (.ref i1) (.ref i2) → IsPair h' TO x y → BIt h' i1 l1 xs (k1 + 1) → BIt h' i2 l2 ys (k2 + 1) → IsPair h' s.heap.objs.size x y →
   (∀ c o, c ≠ z → c ≠ TO → c ≠ i1 → c ≠ i2 → s.heap.get? c = some o → h'.get? c = some o) → Q (.ref s.heap.objs.size) { s with heap := h' }) :
  wpAny (M0) A (Builtin.«zip.__next__» ⟨[.ref z], []⟩) (fun fin s' => ∃ v, fin = .done (.ret v) ∧ Q v s') E s := by
 show wpAny _ _ (field (.ref z) 2 >>= _) _ _ _
 refine wpAny_bind (wpAny_field hz rfl (x := .bool false) rfl ?_)
 show wpAny _ _ (field (.ref z) 3 >>= _) _ _ _
 refine wpAny_bind (wpAny_field hz rfl (x := .ref TI) rfl (wpAny_bind (wpAny_seqItems hTI rfl ?_)))
 show wpAny _ _ (Builtin.SmallTypes.ownedTupleIsFree (.ref z) >>= _) _ _ _
 refine wpAny_bind ?_
 unfold Builtin.SmallTypes.ownedTupleIsFree
 refine wpAny_bind (wpAny_field hz rfl (x := .none) rfl (wpAny_pure ?_))
 simp only [if_true]
 refine wpAny_bind (wpAny_rule (wpAny_bind (wpAny_field hz rfl (x := .ref TO) rfl ?_)))
 refine wpAny_bind (wpAny_setField_rec hz (by simp) fun h₁ hz₁ hs₁ => ?_)
 replace hz₁ : IsZip h₁ z TI TO .ellipsis := hz₁
 refine wpAny_bind ?_
 simp only [List.zipIdx_cons, List.zipIdx_nil, List.forIn_cons, List.forIn_nil]
 have k1' : ∀ c o, c ≠ z → s.heap.get? c = some o → h₁.get? c = some o := fun c o q e => hs₁.extBut c o q e
 
 refine wpAny_bind (wpAny_bind (wpAny_onRaise ?_))
 show wpAny _ _ (nextOf (.ref i1) >>= _) _ _ _
 refine wpAny_bind ((b1.at (k1' i1 · D.i1z) (k1' l1 · D.l1z)).item hx fun h₂ b1₂ hs₂ => wpAny_pure ?_)
 have k2' : ∀ c o, c ≠ z → c ≠ i1 → s.heap.get? c = some o → h₂.get? c = some o := fun c o q q1 e => hs₂.extBut c o q1 (k1' c o q e)
 have hTO₂ : IsPair h₂ TO a b := k2' _ _ D.TOz D.TOi1 hTO
 refine wpAny_bind (wpAny_seqItems hTO₂ rfl (wpAny_bind (wpAny_updateSeq_pair hTO₂ fun h₃ hTO₃ hs₃ => ?_)))
 replace hTO₃ : IsPair h₃ TO x b := hTO₃
 refine wpAny_bind (wpAny_letGo (wpAny_pure ?_))
 have k3' : ∀ c o, c ≠ z → c ≠ i1 → c ≠ TO → s.heap.get? c = some o → h₃.get? c = some o := fun c o q q1 q2 e => hs₃.extBut c o q2 (k2' c o q q1 e)
 
 refine wpAny_bind (wpAny_bind (wpAny_onRaise ?_))
 show wpAny _ _ (nextOf (.ref i2) >>= _) _ _ _
 refine wpAny_bind ((b2.at (k3' i2 · D.i2z D.i12.symm D.TOi2.symm) (k3' l2 · D.l2z D.l2i1 D.l2TO)).item hy fun h₄ b2₄ hs₄ => wpAny_pure ?_)
 have hTO₄ : IsPair h₄ TO x b := hs₄.extBut _ _ D.TOi2 hTO₃
 refine wpAny_bind (wpAny_seqItems hTO₄ rfl (wpAny_bind (wpAny_updateSeq_pair hTO₄ fun h₅ hTO₅ hs₅ => ?_)))
 replace hTO₅ : IsPair h₅ TO x y := hTO₅
 refine wpAny_bind (wpAny_letGo (wpAny_pure (wpAny_pure ?_)))
 
 refine wpAny_bind (wpAny_seqItems hTO₅ rfl (wpAny_bind (wpAny_newTuple ?_)))
 have hsz : h₅.objs.size = s.heap.objs.size := by rw [hs₅.1, hs₄.1, hs₃.1, hs₂.1, hs₁.1]
 have k5' : ∀ c o, c ≠ z → c ≠ TO → c ≠ i1 → c ≠ i2 → s.heap.get? c = some o → h₅.get? c = some o := fun c o c1 c2 c3 c4 e => hs₅.extBut _ _ c2 (hs₄.extBut _ _ c4 (k3' c o c1 c3 c2 e))
 have hz₅ : IsZip h₅ z TI TO .ellipsis := hs₅.extBut _ _ D.TOz.symm (hs₄.extBut _ _ D.i2z.symm (hs₃.extBut _ _ D.TOz.symm (hs₂.extBut _ _ D.i1z.symm hz₁)))
 have b1₅ : BIt h₅ i1 l1 xs (k1 + 1) := b1₂.at (fun o e => hs₅.extBut _ _ D.TOi1.symm (hs₄.extBut _ _ D.i12 (hs₃.extBut _ _ D.TOi1.symm e))) (fun o e => hs₅.extBut _ _ D.l1TO (hs₄.extBut _ _ D.l1i2 (hs₃.extBut _ _ D.l1TO e)))
 have b2₅ : BIt h₅ i2 l2 ys (k2 + 1) := b2₄.at (fun o e => hs₅.extBut _ _ D.TOi2.symm e) (fun o e => hs₅.extBut _ _ D.l2TO e)
 have hzlt : z < h₅.objs.size := Heap.lt_size hz₅
 show wpAny _ _ (Builtin.SmallTypes.ownedTupleHandOut (.ref z) (.ref h₅.objs.size) >>= _) _ _ _
 refine wpAny_bind ?_
 unfold Builtin.SmallTypes.ownedTupleHandOut
 have hz₆ : IsZip (h₅.push { cls := .type "tuple", data := .seq #[x, y] }) z TI TO .ellipsis := Heap.get?_push_of_some _ hz₅
 refine wpAny_bind (wpAny_setField_rec hz₆ (by simp) fun h₇ hz₇ hs₇ => ?_)
 replace hz₇ : IsZip h₇ z TI TO (rawInt h₅.objs.size) := hz₇
 refine wpAny_setField_rec hz₇ (by simp) fun h₈ hz₈ hs₈ => ?_
 replace hz₈ : IsZip h₈ z TI TO (rawInt h₅.objs.size) := hz₈
 have up : ∀ c o, c ≠ z → h₅.get? c = some o → h₈.get? c = some o := fun c o c1 e => hs₈.extBut _ _ c1 (hs₇.extBut _ _ c1 (Heap.get?_push_of_some _ e))
 have hT₈ : IsPair h₈ h₅.objs.size x y := hs₈.extBut _ _ (Nat.ne_of_gt hzlt) (hs₇.extBut _ _ (Nat.ne_of_gt hzlt) (Heap.get?_push_size _ rfl))
 rw [hsz] at hz₈ hT₈
 refine wpAny_pure ⟨_, rfl, ?_⟩
 show Q (.ref h₅.objs.size) _
 rw [hsz]
 exact hQ h₈ hz₈ (up _ _ D.TIz (k5' _ _ D.TIz D.TITO D.TIi1 D.TIi2 hTI)) (up _ _ D.TOz hTO₅) (b1₅.at (up i1 · D.i1z) (up l1 · D.l1z)) (b2₅.at (up i2 · D.i2z) (up l2 · D.l2z)) hT₈ fun c o c1 c2 c3 c4 e => up c o c1 (k5' c o c1 c2 c3 c4 e)
theorem zip_end {z TI TO i1 i2 l1 l2 : Addr} {k1 k2 : Nat} {xs ys : Array Value} {a b : Value} {Q : Fin → Shared → Prop} (hh : A.handled = none) (D : Apt z TI TO i1 i2 l1 l2)
  (hz : IsZip s.heap z TI TO .none) (hTI : IsPair s.heap TI (.ref i1) (.ref i2)) (hTO : IsPair s.heap TO a b) (b1 : BIt s.heap i1 l1 xs k1) (hend : xs[k1]? = none ∨ (BIt s.heap i2 l2 ys k2 ∧ ys[k2]? = none))
  (hE : ∀ h' e, (∀ c o, c ≠ z → c ≠ TO → c ≠ i1 → c ≠ i2 → s.heap.get? c = some o → h'.get? c = some o) → (∃ o, h'.get? e = some o ∧ o.cls = .type "StopIteration") → (∃ o, h'.get? TO = some o) → E (.ref e) { s with heap := h' }) :
  wpAny (M0) A (Builtin.«zip.__next__» ⟨[.ref z], []⟩) Q E s := by
 show wpAny _ _ (field (.ref z) 2 >>= _) _ _ _
 refine wpAny_bind (wpAny_field hz rfl (x := .bool false) rfl ?_)
 show wpAny _ _ (field (.ref z) 3 >>= _) _ _ _
 refine wpAny_bind (wpAny_field hz rfl (x := .ref TI) rfl (wpAny_bind (wpAny_seqItems hTI rfl ?_)))
 show wpAny _ _ (Builtin.SmallTypes.ownedTupleIsFree (.ref z) >>= _) _ _ _
 refine wpAny_bind ?_
 unfold Builtin.SmallTypes.ownedTupleIsFree
 refine wpAny_bind (wpAny_field hz rfl (x := .none) rfl (wpAny_pure ?_))
 simp only [if_true]
 refine wpAny_bind (wpAny_rule (wpAny_bind (wpAny_field hz rfl (x := .ref TO) rfl ?_)))
 refine wpAny_bind (wpAny_setField_rec hz (by simp) fun h₁ hz₁ hs₁ => ?_)
 replace hz₁ : IsZip h₁ z TI TO .ellipsis := hz₁
 refine wpAny_bind ?_
 simp only [List.zipIdx_cons, List.zipIdx_nil, List.forIn_cons, List.forIn_nil]
 have k1' : ∀ c o, c ≠ z → s.heap.get? c = some o → h₁.get? c = some o := fun c o q e => hs₁.extBut c o q e
 have last : ∀ {h₂ : Heap} {e : Addr}, IsZip h₂ z TI TO .ellipsis → (∃ o, h₂.get? e = some o ∧ o.cls = .type "StopIteration") → (∀ c o, c ≠ z → c ≠ TO → c ≠ i1 → c ≠ i2 → s.heap.get? c = some o → h₂.get? c = some o) → (∃ o, h₂.get? TO = some o) →
   wpAny (M0) A (setField (.ref z) 0 .none) (fun _ s' => E (.ref e) s') E { s with heap := h₂ } := fun {h₂ e} hz₂ he kp ht => by
  obtain ⟨oe, hoe, hce⟩ := he
  have hez : e ≠ z := fun q => by subst q; rw [hz₂] at hoe; cases hoe; simp at hce
  obtain ⟨ot, hot⟩ := ht
  exact wpAny_setField_rec hz₂ (by simp) fun h₃ _ hs₃ => hE h₃ e (fun c o c1 c2 c3 c4 q => hs₃.extBut _ _ c1 (kp c o c1 c2 c3 c4 q)) ⟨oe, hs₃.extBut _ _ hez hoe, hce⟩ ⟨ot, hs₃.extBut _ _ D.TOz hot⟩
 refine wpAny_bind (wpAny_bind (wpAny_onRaise ?_))
 show wpAny _ _ (nextOf (.ref i1) >>= _) _ _ _
 have b1' := b1.at (k1' i1 · D.i1z) (k1' l1 · D.l1z)
 cases hx : xs[k1]? with
 | none =>
  refine wpAny_bind (b1'.done hh hx fun h₂ e hs₂ he => ?_)
  exact last (hs₂ _ _ D.i1z.symm hz₁) he (fun c o c1 _ c3 _ q => hs₂ _ _ c3 (k1' c o c1 q)) ⟨_, hs₂ _ _ D.TOi1 (k1' _ _ D.TOz hTO)⟩
 | some x =>
  obtain ⟨b2, hy⟩ : BIt s.heap i2 l2 ys k2 ∧ ys[k2]? = none := by
   rcases hend with h | h
   ·rw [hx] at h; cases h
   ·exact h
  refine wpAny_bind (b1'.item hx fun h₂ b1₂ hs₂ => wpAny_pure ?_)
  have k2' : ∀ c o, c ≠ z → c ≠ i1 → s.heap.get? c = some o → h₂.get? c = some o := fun c o q q1 e => hs₂.extBut c o q1 (k1' c o q e)
  have hTO₂ : IsPair h₂ TO a b := k2' _ _ D.TOz D.TOi1 hTO
  refine wpAny_bind (wpAny_seqItems hTO₂ rfl (wpAny_bind (wpAny_updateSeq_pair hTO₂ fun h₃ hTO₃ hs₃ => ?_)))
  refine wpAny_bind (wpAny_letGo (wpAny_pure ?_))
  have k3' : ∀ c o, c ≠ z → c ≠ i1 → c ≠ TO → s.heap.get? c = some o → h₃.get? c = some o := fun c o q q1 q2 e => hs₃.extBut c o q2 (k2' c o q q1 e)
  refine wpAny_bind (wpAny_bind (wpAny_onRaise ?_))
  show wpAny _ _ (nextOf (.ref i2) >>= _) _ _ _
  refine wpAny_bind ((b2.at (k3' i2 · D.i2z D.i12.symm D.TOi2.symm) (k3' l2 · D.l2z D.l2i1 D.l2TO)).done hh hy fun h₄ e hs₄ he => ?_)
  exact last (hs₄ _ _ D.i2z.symm (hs₃.extBut _ _ D.TOz.symm (hs₂.extBut _ _ D.i1z.symm hz₁))) he (fun c o c1 c2 c3 c4 q => hs₄ _ _ c4 (k3' c o c1 c3 c2 q)) ⟨_, hs₄ _ _ D.TOi2 hTO₃⟩
theorem zip_next {z TI TO i1 i2 l1 l2 : Addr} {k1 k2 : Nat} {xs ys : Array Value} {x y a b : Value} {Q : Option Value → Shared → Prop} (D : Apt z TI TO i1 i2 l1 l2)
  (hz : IsZip s.heap z TI TO .none) (hTI : IsPair s.heap TI (.ref i1) (.ref i2)) (hTO : IsPair s.heap TO a b) (b1 : BIt s.heap i1 l1 xs k1) (b2 : BIt s.heap i2 l2 ys k2) (hx : xs[k1]? = some x) (hy : ys[k2]? = some y)
  (hQ : ∀ h', IsZip h' z TI TO (rawInt s.heap.objs.size) → IsPair h' TI (.ref i1) (.ref i2) → IsPair h' TO x y → BIt h' i1 l1 xs (k1 + 1) → BIt h' i2 l2 ys (k2 + 1) → IsPair h' s.heap.objs.size x y →
   (∀ c o, c ≠ z → c ≠ TO → c ≠ i1 → c ≠ i2 → s.heap.get? c = some o → h'.get? c = some o) → Q (some (.ref s.heap.objs.size)) { s with heap := h' }) :
  wpAny (M0) A (pyNext (.ref z)) Q E s := by
 have hT : s.TypeIs (.ref z) "zip" := ⟨_, hz, rfl⟩
 unfold pyNext
 exact wpAny_bind (wpAny_attempt (wpAny_callSpecial?_slot (name := Str.ofString "__next__") hT F.slot_zip_next
  (wpAny_call_entry F.slot_zip_next hT F.entry_zip_next (zip_item D hz hTI hTO b1 b2 hx hy fun h' a1 a2 a3 a4 a5 a6 a7 => wpAny_pure (hQ h' a1 a2 a3 a4 a5 a6 a7)) (F.args_zip_next_1 _))))
theorem zip_stop {z TI TO i1 i2 l1 l2 : Addr} {k1 k2 : Nat} {xs ys : Array Value} {a b : Value} {Q : Option Value → Shared → Prop} (hh : A.handled = none) (D : Apt z TI TO i1 i2 l1 l2)
  (hz : IsZip s.heap z TI TO .none) (hTI : IsPair s.heap TI (.ref i1) (.ref i2)) (hTO : IsPair s.heap TO a b) (b1 : BIt s.heap i1 l1 xs k1) (hend : xs[k1]? = none ∨ (BIt s.heap i2 l2 ys k2 ∧ ys[k2]? = none))
  (hQ : ∀ h', (∀ c o, c ≠ z → c ≠ TO → c ≠ i1 → c ≠ i2 → s.heap.get? c = some o → h'.get? c = some o) → (∃ o, h'.get? TO = some o) → Q none { s with heap := h' }) : wpAny (M0) A (pyNext (.ref z)) Q E s := by
 have hT : s.TypeIs (.ref z) "zip" := ⟨_, hz, rfl⟩
 unfold pyNext
 refine wpAny_bind (wpAny_attempt (wpAny_callSpecial?_slot (name := Str.ofString "__next__") hT F.slot_zip_next
  (wpAny_call_entry F.slot_zip_next hT F.entry_zip_next (zip_end hh D hz hTI hTO b1 hend fun h' e hk he ht => ?_) (F.args_zip_next_1 _))))
 obtain ⟨o, ho, hc⟩ := he
 refine wpAny_bind (wpAny_isInstance (T := "StopIteration") (b := true) ⟨o, ho, hc⟩ isSubtype_stop ?_)
 exact wpAny_pure (hQ _ hk ht)
end
end Mine
end
section
open PySem PySem.W PyProof.Rows
open PySem.SeqAt PySem.Builtin
namespace Mine
section
variable {U U' : Addr → Prop} {b k : Nat} {ρ ρ' : List Addr} {L : Option Addr} {H H' : St} {h h' h0 : Heap} {O : List Addr} {A : Around} {n : Nat}
structure Own (U : Addr → Prop) (ρ : List Addr) (O : List Addr) : Prop where
 base : ∀ a ∈ O, C0.B.get? a = none
 tab : ∀ a ∈ O, ¬ C0.tabA a
 apart : ∀ a ∈ O, ∀ i : Nat, ρ[i]? ≠ some a
 hid : ∀ a ∈ O, U a
noncomputable def Softs (h : Heap) (O : List Addr) : Prop := ∀ a ∈ O, ∃ o, h.get? a = some o ∧ firm o = false
noncomputable def Kp (O : List Addr) (h h' : Heap) : Prop := ∀ a o, a ∉ O → h.get? a = some o → h'.get? a = some o
theorem Own.mv (w : Own U ρ O) (sf : Softs h O) (kp : Kp O h h') (hU : ∀ a, U' a → U a) : Mv U U' ρ ρ h h' :=
 have no : ∀ a o, h.get? a = some o → firm o = true → h'.get? a = some o := fun a o e f => kp a o (fun m => let ⟨o', e', q⟩ := sf a m; Bool.noConfusion (q.symm.trans (Option.some.inj (e'.symm.trans e) ▸ f))) e
 ⟨Ext.refl, fun a vs n e z => ⟨kp a _ (fun m => z (w.hid a m)) e, fun q => z (hU a q)⟩, fun a fd e => no _ _ e rfl, fun r a b c t u v e => no _ _ e rfl, fun v q => by
  rintro ⟨c, o, vs, t, e0, e, hd, hv⟩ _
  exact ⟨c, o, vs, t, e0, no c o e (by unfold firm; rw [hd]; show (isRg o.cls || isSt vs[1]?) = true; rw [hv]; exact Bool.or_true _), hd, hv⟩⟩
theorem Own.rel (w : Own U ρ O) (S : SRel U ρ H h) (sf : Softs h O) (kp : Kp O h h') (hU : ∀ a, U' a → U a) (al : ∀ a ∈ O, U' a → ∃ o, h'.get? a = some o) : SRel U' ρ H h' :=
 S.move (w.mv sf kp hU) (fun a o e => kp a o fun m => nomatch (w.base a m).symm.trans e) (fun i a o e => kp a o fun m => w.apart a m i e) (fun x hx o => kp _ o fun m => w.tab _ m ⟨x, hx, rfl⟩)
  fun a ha => (Classical.em (a ∈ O)).elim (fun m => al a m ha) fun m => let ⟨o, e⟩ := S.hid a (hU a ha); ⟨o, kp a o m e⟩
theorem Evo.own (E : Evo b ρ L h0 h) (fr : ∀ a ∈ O, h0.get? a = none) (kp : Kp O h h') : Evo b ρ L h0 h' :=
 ⟨fun a o e => let ⟨o', e'⟩ := E.alive a o e; ⟨o', kp a o' (fun m => nomatch (fr a m).symm.trans e) e'⟩, fun a o e hn ht hL => kp a o (fun m => nomatch (fr a m).symm.trans e) (E.keep a o e hn ht hL)⟩
theorem Own.next (w : Own U ρ O) (sf : Softs h O) (X : Ext ρ ρ') (N : Fresh ρ ρ' h) : Own U ρ' O :=
 ⟨w.base, w.tab, fun a m i e => (Nat.lt_or_ge i ρ.length).elim (fun hi => w.apart a m i (X.old hi e)) fun hi => let ⟨_, e', _⟩ := sf a m; (nomatch (N i a hi e).symm.trans e'), w.hid⟩
theorem Own.kept (w : Own U ρ O) (E : Evo b ρ L h h') (hL : ∀ a ∈ O, L ≠ some a) : ∀ a ∈ O, ∀ o, h.get? a = some o → h'.get? a = some o := fun a m o e => E.keep a o e (fun i _ => w.apart a m i) (w.tab a m) (hL a m)
noncomputable def Hd (U : Addr → Prop) (O : List Addr) (a : Addr) : Prop := U a ∨ a ∈ O
theorem Own.new (S : SRel U ρ H h) (fr : ∀ a ∈ O, h.get? a = none) : Own (Hd U O) ρ O :=
 ⟨fun a m => (S.old (fr a m)).2, fun a m ⟨x, hx, q⟩ => let ⟨_, _, _, t⟩ := S.tabs x hx; (nomatch (q ▸ fr a m : h.get? x.2.1 = none).symm.trans t.at_), fun a m => (S.old (fr a m)).1, fun a m => .inr m⟩
theorem Mv.hide (fr : ∀ a ∈ O, h.get? a = none) (hk : ∀ a o, h.get? a = some o → h'.get? a = some o) : Mv U (Hd U O) ρ ρ h h' :=
 ⟨Ext.refl, fun a vs n e z => ⟨hk _ _ e, fun q => q.elim z fun m => nomatch (fr a m).symm.trans e⟩, fun _ _ e => hk _ _ e, fun _ _ _ _ _ _ _ e => hk _ _ e, fun v q => by
  rintro ⟨c, o, vs, t, e0, e, hd, hv⟩ _
  exact ⟨c, o, vs, t, e0, hk _ _ e, hd, hv⟩⟩
theorem SRel.hide (S : SRel U ρ H h) (fr : ∀ a ∈ O, h.get? a = none) (hk : ∀ a o, h.get? a = some o → h'.get? a = some o) (al : ∀ a ∈ O, ∃ o, h'.get? a = some o) : SRel (Hd U O) ρ H h' :=
 S.move (Mv.hide fr hk) (fun a o _ => hk a o) (fun _ a o _ => hk a o) (fun x _ o => hk _ o) fun a ha => ha.elim (fun q => let ⟨o, e⟩ := S.hid a q; ⟨o, hk _ _ e⟩) (al a)
noncomputable def isBase : Src → Bool
 | .lst _ => true
 | .tup _ => true
 | _ => false
noncomputable def BR (U : Addr → Prop) (ρ : List Addr) (h : Heap) (k : Nat) (s : Src) (it : Addr) : Prop := match s with
 | .lst i => ∃ a, ρ[i]? = some a ∧ h.IsListIter it a k
 | .tup xs => ∃ a vs m, TupAt h a vs m ∧ ¬ U a ∧ VRels U ρ h xs vs ∧ h.IsTupleIter it a k
 | _ => False
noncomputable def IRel (U : Addr → Prop) (ρ : List Addr) (h : Heap) (k : Nat) (s : Src) (it : Addr) (O : List Addr) : Prop := match s with
 | .rng a c d => O = [it] ∧ IsRangeIter h it (a + k * d) ((rangeN a c d : Int) - k) d
 | .rv i m => O = [it] ∧ k ≤ m ∧ ∃ a, ρ[i]? = some a ∧ h.IsRevIter it a ((m : Int) - 1 - k)
 | .en s => ∃ i old, O = [it, i] ∧ BR U ρ h k s i ∧ IsEnum h it i k old ∧ it ≠ i
 | .zp s t => ∃ TI TO i1 i2 a c, O = [it, TI, TO, i1, i2] ∧ BR U ρ h k s i1 ∧ BR U ρ h k t i2 ∧ IsZip h it TI TO .none ∧ IsPair h TI (.ref i1) (.ref i2) ∧ IsPair h TO a c ∧ [it, TI, TO, i1, i2].Nodup
 | s => O = [it] ∧ BR U ρ h k s it
theorem soft1 {it : Addr} {T : String} {fs : Array Value} (hT : (T == "range") = false) (hs : isSt fs[1]? = false) (e : ∃ o, h.get? it = some o ∧ o.cls = .type T ∧ o.data = .fields fs) : ∃ o, h.get? it = some o ∧ firm o = false := by
 obtain ⟨o, e, c, d⟩ := e
 exact ⟨o, e, by unfold firm; rw [d, c]; exact Bool.or_eq_false_iff.mpr ⟨hT, hs⟩⟩
theorem BR.soft {s : Src} {it : Addr} (r : BR U ρ h k s it) : ∃ o, h.get? it = some o ∧ firm o = false := by
 cases s with
 | lst i => obtain ⟨a, _, e⟩ := r; exact soft1 rfl rfl e
 | tup xs => obtain ⟨a, vs, m, _, _, _, e⟩ := r; exact soft1 rfl rfl e
 | _ => exact r.elim
theorem all1 {P : Addr → Prop} {a : Addr} (h : P a) : ∀ x ∈ [a], P x := fun x m => List.mem_singleton.mp m ▸ h
theorem all2 {P : Addr → Prop} {a : Addr} {l : List Addr} (h : P a) (r : ∀ x ∈ l, P x) : ∀ x ∈ a :: l, P x := fun x m => (List.mem_cons.mp m).elim (fun q => q ▸ h) (r x)
theorem IRel.soft {s : Src} {it : Addr} (r : IRel U ρ h k s it O) : Softs h O := by
 cases s with
 | rng a c d => obtain ⟨rfl, e⟩ := r; exact all1 ⟨_, e, rfl⟩
 | rv i m => obtain ⟨rfl, _, a, _, e⟩ := r; exact all1 (soft1 rfl rfl e)
 | en s => obtain ⟨i, old, rfl, b, e, _⟩ := r; exact all2 ⟨_, e, rfl⟩ (all1 b.soft)
 | zp s t => obtain ⟨TI, TO, i1, i2, a, c, rfl, b1, b2, e1, e2, e3, _⟩ := r; exact all2 ⟨_, e1, rfl⟩ (all2 ⟨_, e2, rfl⟩ (all2 ⟨_, e3, rfl⟩ (all2 b1.soft (all1 b2.soft))))
 | lst i => obtain ⟨rfl, b⟩ := r; exact all1 b.soft
 | tup xs => obtain ⟨rfl, b⟩ := r; exact all1 b.soft
theorem iter_at {it : Addr} {T : String} {fs : Array Value} (ho : ∀ o, h.get? it = some o → h'.get? it = some o) : (∃ o, h.get? it = some o ∧ o.cls = .type T ∧ o.data = .fields fs) → ∃ o, h'.get? it = some o ∧ o.cls = .type T ∧ o.data = .fields fs :=
 fun ⟨o, e, r⟩ => ⟨o, ho o e, r⟩
theorem BR.next {s : Src} {it : Addr} (r : BR U ρ h k s it) (m : Mv U U' ρ ρ' h h') (ho : ∀ o, h.get? it = some o → h'.get? it = some o) : BR U' ρ' h' k s it := by
 cases s with
 | lst i => obtain ⟨a, e1, e⟩ := r; exact ⟨a, m.X _ _ e1, iter_at ho e⟩
 | tup xs => obtain ⟨a, vs, n, e1, z, q, e⟩ := r; exact ⟨a, vs, n, (m.tp _ _ _ e1 z).1, (m.tp _ _ _ e1 z).2, q.map m, iter_at ho e⟩
 | _ => exact r.elim
theorem IRel.next {s : Src} {it : Addr} (r : IRel U ρ h k s it O) (m : Mv U U' ρ ρ' h h') (ho : ∀ a ∈ O, ∀ o, h.get? a = some o → h'.get? a = some o) : IRel U' ρ' h' k s it O := by
 cases s with
 | rng a c d => obtain ⟨rfl, e⟩ := r; exact ⟨rfl, ho _ (.head _) _ e⟩
 | rv i _ => obtain ⟨rfl, l, a, e1, e⟩ := r; exact ⟨rfl, l, a, m.X _ _ e1, iter_at (ho _ (.head _)) e⟩
 | en s => obtain ⟨i, old, rfl, b, e, ne⟩ := r; exact ⟨i, old, rfl, b.next m (ho _ (.tail _ (.head _))), ho _ (.head _) _ e, ne⟩
 | zp s t =>
  obtain ⟨TI, TO, i1, i2, a, c, rfl, b1, b2, e1, e2, e3, nd⟩ := r
  exact ⟨TI, TO, i1, i2, a, c, rfl, b1.next m (ho _ (.tail _ (.tail _ (.tail _ (.head _))))), b2.next m (ho _ (.tail _ (.tail _ (.tail _ (.tail _ (.head _)))))), ho _ (.head _) _ e1, ho _ (.tail _ (.head _)) _ e2, ho _ (.tail _ (.tail _ (.head _))) _ e3, nd⟩
 | lst i => obtain ⟨rfl, b⟩ := r; exact ⟨rfl, b.next m (ho _ (.head _))⟩
 | tup xs => obtain ⟨rfl, b⟩ := r; exact ⟨rfl, b.next m (ho _ (.head _))⟩
end
noncomputable def Src.pairs : Src → Bool
 | .en _ => true
 | .zp _ _ => true
 | _ => false
section
variable {A : Around} {b n k : Nat} {w w' : Ws} {O : List Addr} {it : Addr} {s : Src} {v : AV} {t : Tg}
structure Stp (O : List Addr) (k : Nat) (s : Src) (it : Addr) (w w' : Ws) : Prop where
 U : w'.U = w.U
 ρ : w'.ρ = w.ρ
 H : w'.H = w.H
 sh : w'.s = { w.s with heap := w'.s.heap, toks := w'.s.toks }
 t : w.s.toks ≤ w'.s.toks
 kp : Kp O w.s.heap w'.s.heap
 ir : IRel w'.U w'.ρ w'.s.heap k s it O
 mv : Mv w.U w'.U w.ρ w'.ρ w.s.heap w'.s.heap
noncomputable def Nx (A : Around) (t : Tg) (O : List Addr) (k : Nat) (s : Src) (it : Addr) (w : Ws) (v : Option AV) : Prop := ∀ (P : Option Value → Shared → Prop) (Qt : Value → Shared → Prop) (E : Value → Shared → Prop),
 (∀ x s₁, wpAny M0 A (letOwnedTupleGo t.toE (.ref it) x) (fun _ s₂ => Qt x s₂) E s₁ → P (some x) s₁) → (∀ x w' val, v = some x → Stp O (k + 1) s it w w' → VR w' x val → Qt val w'.s) →
 (v = none → ∀ h', Kp O w.s.heap h' → P none { w.s with heap := h' }) → wpAny M0 A (pyNext (.ref it)) P E w.s
theorem Nx.stp {h' : Heap} {tk : Nat} (o : Own w.U w.ρ O) (sf : Softs w.s.heap O) (ir : IRel w.U w.ρ h' (k + 1) s it O) (kp : Kp O w.s.heap h') (l : w.s.toks ≤ tk) : ∃ w', Stp O (k + 1) s it w w' ∧ w'.s = { w.s with heap := h', toks := tk } ∧ Mv w.U w'.U w.ρ w'.ρ w.s.heap w'.s.heap :=
 have m := o.mv sf kp fun _ q => q
 ⟨⟨w.U, w.ρ, w.H, { w.s with heap := h', toks := tk }, o.rel w.S sf kp (fun _ q => q) fun a m _ => (ir.soft a m).imp fun _ q => q.1, Nat.lt_of_lt_of_le w.t l⟩, ⟨rfl, rfl, rfl, rfl, l, kp, ir, m⟩, rfl, m⟩
theorem owned_skip {s : Shared} {E : Value → Shared → Prop} {val : Value} {o : Obj} {T : String} {Q : Unit → Shared → Prop} (e : s.heap.get? it = some o) (hc : o.cls = .type T)
  (hT : ["enumerate", "zip", "dict_itemiterator", "dict_reverseitemiterator", "odict_iterator", "itertools.zip_longest", "itertools.pairwise"].contains T = false) (q : Q () s) : wpAny M0 A (letOwnedTupleGo t.toE (.ref it) val) Q E s := by
 cases t with
 | name => exact wpAny_pure q
 | tup =>
  cases val with
  | ref a =>
   refine wpAny_bind (wpAny_load e ?_)
   rw [hc]
   cases o.data with
   | fields => show wpAny _ _ (if (_ && _) = true then _ else _) _ _ _; rw [hT, Bool.false_and, if_neg Bool.false_ne_true]; exact wpAny_pure q
   | _ => exact wpAny_pure q
  | _ => exact wpAny_pure q
theorem nth_rel {xs : List AV} {vs : List Value} (r : VRs w xs vs) (k : Nat) : (nth xs k = none ∧ vs.toArray[k]? = none) ∨ ∃ x v, nth xs k = some x ∧ vs.toArray[k]? = some v ∧ VR w x v := by
 cases e : nth xs k with
 | none => exact .inl ⟨rfl, by rw [nth_getElem] at e; exact Array.getElem?_eq_none (by rw [List.size_toArray, ← r.length]; exact List.getElem?_eq_none_iff.mp e)⟩
 | some x => obtain ⟨v, ev, rv⟩ := r.nth e; exact .inr ⟨x, v, rfl, toI ev, rv⟩
theorem BIt.isl {h : Heap} {l : Addr} {items : Array Value} {vs : List Value} {n : Nat} (b : BIt h it l items k) (e : LstAt h l vs n) : h.IsListIter it l k := by
 cases b with
 | lst a _ => exact a
 | tup _ c => obtain ⟨o, e', c, _⟩ := c; exact absurd (Value.type.inj ((congrArg Obj.cls (Option.some.inj (e.symm.trans e'))).trans c)) (by decide)
theorem BIt.ist {h : Heap} {l : Addr} {items : Array Value} {vs : List Value} {n : Nat} (b : BIt h it l items k) (e : TupAt h l vs n) : h.IsTupleIter it l k := by
 cases b with
 | tup a _ => exact a
 | lst _ c => obtain ⟨o, e', c, _⟩ := c; exact absurd (Value.type.inj ((congrArg Obj.cls (Option.some.inj (e.symm.trans e'))).trans c)) (by decide)
structure Bit (w : Ws) (k : Nat) (s : Src) (it : Addr) (v : Option AV) (l : Addr) (items : Array Value) : Prop where
 bi : BIt w.s.heap it l items k
 el : (v = none ∧ items[k]? = none) ∨ ∃ x val, v = some x ∧ items[k]? = some val ∧ VR w x val
 nl : ∀ O, Own w.U w.ρ O → l ∉ O
 back : ∀ {U' : Addr → Prop} {ρ' : List Addr} {h' : Heap}, Mv w.U U' w.ρ ρ' w.s.heap h' → (∀ o, w.s.heap.get? l = some o → h'.get? l = some o) → BIt h' it l items (k + 1) → BR U' ρ' h' (k + 1) s it
theorem BR.bit (r : BR w.U w.ρ w.s.heap k s it) : Op (fun v => ∃ l items, Bit w k s it v l items) (srcAt w.H s k) := by
 cases s with
 | lst i =>
  obtain ⟨a, ea, e⟩ := r
  refine Op.ob1 fun xs hx => Op.gd fun _ => Op.some ?_
  obtain ⟨vs, n, e1, r1⟩ := getLst_rel hx ea
  exact ⟨a, _, .lst e ⟨_, e1, rfl, _, rfl⟩, nth_rel r1 k, fun O o m => o.apart a m i ea, fun m kp bi => ⟨a, m.X _ _ ea, bi.isl (kp _ e1)⟩⟩
 | tup xs =>
  obtain ⟨a, vs, n, e1, z, r1, e⟩ := r
  exact Op.gd fun _ => Op.some ⟨a, _, .tup e ⟨_, e1, rfl, _, rfl⟩, nth_rel r1 k, fun O o m => z (o.hid a m), fun m kp bi => ⟨a, vs, n, kp _ e1, (m.tp _ _ _ e1 z).2, r1.map m, bi.ist (kp _ e1)⟩⟩
 | _ => exact r.elim
theorem nx_base (R : Rm A n) (o : Own w.U w.ρ [it]) (r : BR w.U w.ρ w.s.heap k s it) (mk : ∀ {U ρ h}, BR U ρ h (k + 1) s it → IRel U ρ h (k + 1) s it [it]) : Op (Nx A t [it] k s it w) (srcAt w.H s k) := by
 intro v e P Qt E hP hs hn
 obtain ⟨l, items, B⟩ := r.bit v e
 rcases B.el with ⟨rfl, q⟩ | ⟨x, val, rfl, q, rv⟩
 ·exact B.bi.stop R.hd q fun h' hx => hn rfl h' fun a ob m e => hx a ob (fun q => m (q ▸ .head _)) e
 ·refine B.bi.next q fun h' bi' hs' => hP _ _ ?_
  have kp : Kp [it] w.s.heap h' := fun a ob m e => hs'.extBut a ob (fun q => m (q ▸ .head _)) e
  have sf : Softs w.s.heap [it] := all1 r.soft
  obtain ⟨w', st, es, m⟩ := Nx.stp o sf (mk (B.back (o.mv sf kp fun _ q => q) (fun ob e => hs'.extBut _ ob B.bi.ne e) bi')) kp (Nat.le_refl _)
  have fin := hs x w' val rfl st (VRel.map m rv)
  rw [es] at fin
  obtain ⟨⟨o, e5, c5, _⟩, _⟩ := bi'.get
  rcases c5 with c5 | c5 <;> exact owned_skip e5 c5 rfl fin
theorem nx_rng (R : Rm A n) {a c d : Int} (o : Own w.U w.ρ [it]) (ei : IsRangeIter w.s.heap it (a + k * d) ((rangeN a c d : Int) - k) d) : Op (Nx A t [it] k (.rng a c d) it w) (srcAt w.H (.rng a c d) k) := by
 refine Op.some fun P Qt E hP hs hn => ?_
 cases hk : Nat.blt k (rangeN a c d) with
 | true =>
  rw [hk] at hs
  have hk : k < rangeN a c d := Nat.le_of_ble_eq_true hk
  refine wpAny_pyNext_range_item ei (by (first | lia | omega)) fun h' ei' hs' => hP _ _ ?_
  have kp : Kp [it] w.s.heap h' := fun a ob m e => hs'.extBut a ob (fun q => m (q ▸ .head _)) e
  have ir : IRel w.U w.ρ h' (k + 1) (.rng a c d) it [it] := ⟨rfl, by
   rw [Int.natCast_succ, Int.add_mul, Int.one_mul, ← Int.add_assoc, ← Int.sub_sub]; exact ei'⟩
  obtain ⟨w', st, es, m⟩ := Nx.stp o (all1 ⟨_, ei, rfl⟩) ir kp (Nat.le_succ _)
  have fin := hs _ w' (.int _ w.s.toks) rfl st VR.int
  rw [es] at fin
  exact owned_skip ei' rfl rfl fin
 | false =>
  rw [hk] at hn
  have hk : ¬ k < rangeN a c d := fun q => by rw [show Nat.blt k (rangeN a c d) = true from Nat.ble_eq_true_of_le q] at hk; cases hk
  exact wpAny_pyNext_range_end R.hd ei (by (first | lia | omega)) fun h' hx => hn rfl h' fun a ob m e => hx a ob (fun q => m (q ▸ .head _)) e
theorem nx_rv (R : Rm A n) {i m : Nat} {a : Addr} (o : Own w.U w.ρ [it]) (hm : k ≤ m) (ea : w.ρ[i]? = some a) (ei : w.s.heap.IsRevIter it a ((m : Int) - 1 - k)) : Op (Nx A t [it] k (.rv i m) it w) (srcAt w.H (.rv i m) k) := by
 refine Op.cnd (fun hk => ?_) fun hk => ?_
 ·refine Op.ob1 fun xs hx => Op.gd fun _ => Op.ob1 fun x hn => Op.some fun P Qt E hP hs _ => ?_
  have hk : k < m := Nat.le_of_ble_eq_true hk
  obtain ⟨vs, m', e3, r1⟩ := getLst_rel hx ea
  obtain ⟨val, ev, rv⟩ := r1.nth hn
  have e2' : w.s.heap.IsRevIter it a (((m - 1 - k : Nat)) : Int) := by
   have : ((m - 1 - k : Nat) : Int) = (m : Int) - 1 - k := by (first | lia | omega)
   rw [this]; exact ei
  refine wpAny_pyNext_rev_item e2' ⟨_, e3, rfl, _, rfl⟩ (toI ev) fun h' ei' hs' => hP _ _ ?_
  have kp : Kp [it] w.s.heap h' := fun a ob m e => hs'.extBut a ob (fun q => m (q ▸ .head _)) e
  have ir : IRel w.U w.ρ h' (k + 1) (.rv i m) it [it] := ⟨rfl, hk, a, ea, by
   have : ((m - 1 - k : Nat) : Int) - 1 = (m : Int) - 1 - (k + 1 : Nat) := by (first | lia | omega)
   rw [← this]; exact ei'⟩
  obtain ⟨w', st, es, m⟩ := Nx.stp o (all1 (soft1 rfl rfl ei)) ir kp (Nat.le_refl _)
  have fin := hs _ w' _ rfl st (VRel.map m rv)
  rw [es] at fin
  obtain ⟨o, e5, c5, _⟩ := id ei'
  exact owned_skip e5 c5 rfl fin
 ·refine Op.some fun P Qt E hP _ hn => ?_
  have hk : ¬ k < m := fun q => by rw [show Nat.blt k m = true from Nat.ble_eq_true_of_le q] at hk; cases hk
  have e2' : w.s.heap.IsRevIter it a (-1) := by
   have : (m : Int) - 1 - k = -1 := by (first | lia | omega)
   rw [← this]; exact ei
  exact wpAny_pyNext_rev_end R.hd e2' fun h' hx => hn rfl h' fun a ob m e => hx a ob (fun q => m (q ▸ .head _)) e
theorem enum_stop {s : Shared} {E : Value → Shared → Prop} {e it l : Addr} {i : Int} {old : Value} {items : Array Value} {k : Nat} {Q : Option Value → Shared → Prop} (hh : A.handled = none) (he : IsEnum s.heap e it i old) (bi : BIt s.heap it l items k) (hx : items[k]? = none)
  (hQ : ∀ h', Heap.ExtBut it s.heap h' → Q none { s with heap := h' }) : wpAny M0 A (pyNext (.ref e)) Q E s := by
 have hT : s.TypeIs (.ref e) "enumerate" := ⟨_, he, rfl⟩
 unfold pyNext
 refine wpAny_bind (wpAny_attempt (wpAny_callSpecial?_slot (name := Str.ofString "__next__") hT F.slot_enumerate_next (wpAny_call_entry F.slot_enumerate_next hT F.entry_enumerate_next ?_ (F.args_enumerate_next_1 _))))
 show wpAny _ _ (field (.ref e) 2 >>= _) _ _ _
 refine wpAny_bind (wpAny_field he rfl (x := .ref it) rfl (wpAny_bind (bi.done (A := A.in1) hh hx fun h' x he' hx' => ?_)))
 obtain ⟨o, ho, hc⟩ := hx'
 exact wpAny_bind (wpAny_isInstance (T := "StopIteration") (b := true) ⟨o, ho, hc⟩ isSubtype_stop (wpAny_pure (hQ _ he')))
theorem nx_en (R : Rm A n) {i1 : Addr} {old : Value} (hp : t.isTup = true) (o : Own w.U w.ρ [it, i1]) (r : BR w.U w.ρ w.s.heap k s i1) (ee : IsEnum w.s.heap it i1 k old) (ne : it ≠ i1) : Op (Nx A t [it, i1] k (.en s) it w) (srcAt w.H (.en s) k) := by
 refine Op.ob1 fun v e => Op.some fun P Qt E hP hs hn => ?_
 obtain ⟨l, items, B⟩ := r.bit v e
 have nl := B.nl _ o
 rcases B.el with ⟨rfl, q⟩ | ⟨x, val, rfl, ex, rv⟩
 ·exact enum_stop R.hd ee B.bi q fun h' hx => hn rfl h' fun a ob m e => hx a ob (fun q => m (q ▸ .tail _ (.head _))) e
 ·cases t with
  | name => cases hp
  | tup ks p =>
   have hli : l ≠ it := fun q => nl (q ▸ .head _)
   refine wpAny_with_toks (n := w.s.toks) (Nat.le_refl _) (wpAny_pyNext_enum_itemD (BIt.draws (A := A.in1) R.hd i1 l items) ee B.bi (Array.getElem?_eq_some_iff.mp ex).1 ne (fun q => (List.mem_cons.mp q).elim ne fun q => hli (List.mem_singleton.mp q).symm) fun x' h' tk hx ho st hT hsz kp => fun hle => hP _ _ ?_)
   have hx : items[k]? = some x' := hx
   obtain rfl := Option.some.inj (hx.symm.trans ex)
   refine wpAny_letOwnedTupleGo_enum ho fun h2 he2 hs2 => ?_
   have kp2 : Kp [it, i1] w.s.heap h2 := fun a o m e => hs2.extBut a o (fun q => m (q ▸ .head _)) (kp a o (fun q => m (q ▸ .head _)) (fun q => m (q ▸ .tail _ (.head _))) e)
   have sf : Softs w.s.heap [it, i1] := all2 ⟨_, ee, rfl⟩ (all1 r.soft)
   have bi2 : BIt h2 i1 l items (k + 1) := st.at (fun o e => hs2.extBut _ o ne.symm e) (fun o e => hs2.extBut _ o hli e)
   have ir : IRel w.U w.ρ h2 (k + 1) (.en s) it [it, i1] := ⟨i1, _, rfl, B.back (o.mv sf kp2 fun _ q => q) (fun o e => kp2 l o nl e) bi2, he2, ne⟩
   obtain ⟨w', st, es, m⟩ := Nx.stp (tk := tk + 1) o sf ir kp2 hle
   rw [show ({ w.s with heap := h2, toks := tk + 1 } : Shared) = w'.s from es.symm]
   refine hs _ w' _ rfl st ⟨w.s.heap.objs.size, [.int k tk, x'], 0, rfl, ?_, ?_, _, _, rfl, VR.int, _, _, rfl, VRel.map m rv, rfl⟩
   ·rw [es]; exact hs2.extBut _ _ (Nat.ne_of_gt (Heap.lt_size ee)) hT
   ·rw [st.U]; exact w.S.notHid (Nat.le_refl _)
theorem apt_of {TI TO i1 i2 l1 l2 : Addr} (nd : [it, TI, TO, i1, i2].Nodup) (h1 : l1 ∉ [it, TI, TO, i1, i2]) (h2 : l2 ∉ [it, TI, TO, i1, i2]) : Apt it TI TO i1 i2 l1 l2 := by
 simp only [List.nodup_cons, List.mem_cons, List.not_mem_nil, or_false, not_or, not_false_eq_true, List.nodup_nil, and_true] at nd h1 h2
 obtain ⟨⟨n1, n2, n3, n4⟩, ⟨n5, n6, n7⟩, ⟨n8, n9⟩, n10⟩ := nd
 obtain ⟨a1, a2, a3, a4, a5⟩ := h1
 obtain ⟨b1, b2, b3, b4, b5⟩ := h2
 exact ⟨Ne.symm n1, Ne.symm n2, Ne.symm n3, Ne.symm n4, n5, n6, n7, n8, n9, n10, a1, a3, a4, a5, b1, b3, b4, b5⟩
theorem kp5 {TI TO i1 i2 : Addr} {h h' : Heap} (kp : ∀ c o, c ≠ it → c ≠ TO → c ≠ i1 → c ≠ i2 → h.get? c = some o → h'.get? c = some o) : Kp [it, TI, TO, i1, i2] h h' := fun a o m e =>
 kp a o (fun q => m (q ▸ .head _)) (fun q => m (q ▸ .tail _ (.tail _ (.head _)))) (fun q => m (q ▸ .tail _ (.tail _ (.tail _ (.head _))))) (fun q => m (q ▸ .tail _ (.tail _ (.tail _ (.tail _ (.head _)))))) e
theorem nx_zp (R : Rm A n) {s2 : Src} {TI TO i1 i2 : Addr} {a c : Value} (hp : t.isTup = true) (o : Own w.U w.ρ [it, TI, TO, i1, i2]) (r1 : BR w.U w.ρ w.s.heap k s i1) (r2 : BR w.U w.ρ w.s.heap k s2 i2) (e1 : IsZip w.s.heap it TI TO .none) (e2 : IsPair w.s.heap TI (.ref i1) (.ref i2)) (e3 : IsPair w.s.heap TO a c)
  (nd : [it, TI, TO, i1, i2].Nodup) : Op (Nx A t [it, TI, TO, i1, i2] k (.zp s s2) it w) (srcAt w.H (.zp s s2) k) := by
 refine Op.ob1 fun v e => ?_
 obtain ⟨l1, xs, B1⟩ := r1.bit v e
 have nl1 := B1.nl _ o
 rcases B1.el with ⟨rfl, q⟩ | ⟨x, xv, rfl, ex, rx⟩
 ·exact Op.some fun P Qt E hP hs hn => zip_stop (ys := #[]) (k2 := 0) R.hd (apt_of nd nl1 nl1) e1 e2 e3 B1.bi (.inl q) fun h' kp _ => hn rfl h' (kp5 kp)
 refine Op.ob1 fun v e' => Op.some fun P Qt E hP hs hn => ?_
 obtain ⟨l2, ys, B2⟩ := r2.bit v e'
 have nl2 := B2.nl _ o
 have D := apt_of nd nl1 nl2
 rcases B2.el with ⟨rfl, q⟩ | ⟨y, yv, rfl, ey, ry⟩
 ·exact zip_stop R.hd D e1 e2 e3 B1.bi (.inr ⟨B2.bi, q⟩) fun h' kp _ => hn rfl h' (kp5 kp)
 ·cases t with
  | name => cases hp
  | tup ks p =>
   refine zip_next D e1 e2 e3 B1.bi B2.bi ex ey fun h' z1 z2 z3 z4 z5 z6 kp => hP _ _ (wpAny_letOwnedTupleGo_zip z1 fun h2 he2 hs2 => ?_)
   have up : ∀ {a : Addr} {o : Obj}, a ≠ it → h'.get? a = some o → h2.get? a = some o := fun q e => hs2.extBut _ _ q e
   have kp2 : Kp [it, TI, TO, i1, i2] w.s.heap h2 := fun a o m e => up (fun q => m (q ▸ .head _)) (kp5 kp a o m e)
   have sf : Softs w.s.heap [it, TI, TO, i1, i2] := all2 ⟨_, e1, rfl⟩ (all2 ⟨_, e2, rfl⟩ (all2 ⟨_, e3, rfl⟩ (all2 r1.soft (all1 r2.soft))))
   have m := o.mv sf kp2 fun _ q => q
   have ir : IRel w.U w.ρ h2 (k + 1) (.zp s s2) it [it, TI, TO, i1, i2] := ⟨TI, TO, i1, i2, xv, yv, rfl, B1.back m (fun o e => kp2 l1 o nl1 e) (z4.at (fun o e => up D.i1z e) (fun o e => up D.l1z e)), B2.back m (fun o e => kp2 l2 o nl2 e) (z5.at (fun o e => up D.i2z e) (fun o e => up D.l2z e)), he2, up D.TIz z2, up D.TOz z3, nd⟩
   obtain ⟨w', st, es, m⟩ := Nx.stp o sf ir kp2 (Nat.le_refl _)
   rw [show ({ w.s with heap := h2 } : Shared) = w'.s from es.symm]
   refine hs _ w' _ rfl st ⟨w.s.heap.objs.size, [xv, yv], 0, rfl, ?_, ?_, _, _, rfl, VRel.map m rx, _, _, rfl, VRel.map m ry, rfl⟩
   ·rw [es]; exact up (Nat.ne_of_gt (Heap.lt_size e1)) z6
   ·rw [st.U]; exact w.S.notHid (Nat.le_refl _)
theorem nx_snd (R : Rm A n) (hp : s.pairs = true → t.isTup = true) (o : Own w.U w.ρ O) (ir : IRel w.U w.ρ w.s.heap k s it O) : Op (Nx A t O k s it w) (srcAt w.H s k) := by
 cases s with
 | lst i => obtain ⟨rfl, r⟩ := ir; exact nx_base R o r fun r => ⟨rfl, r⟩
 | tup xs => obtain ⟨rfl, r⟩ := ir; exact nx_base R o r fun r => ⟨rfl, r⟩
 | rng a c d => obtain ⟨rfl, ei⟩ := ir; exact nx_rng R o ei
 | rv i m => obtain ⟨rfl, hm, a, ea, ei⟩ := ir; exact nx_rv R o hm ea ei
 | en s => obtain ⟨i, old, rfl, r, ee, ne⟩ := ir; exact nx_en R (hp rfl) o r ee ne
 | zp s s2 => obtain ⟨TI, TO, i1, i2, a, c, rfl, r1, r2, e1, e2, e3, nd⟩ := ir; exact nx_zp R (hp rfl) o r1 r2 e1 e2 e3 nd
end
section
variable {A : Around} {b n k : Nat} {w w' : Ws} {O : List Addr} {it i : Addr} {src : Src} {u : AV} {val : Value} {K : Kn} {lo : Lo} {h1 : Heap}
variable {ev : X → Lo → Ce → Nat → St → Option (AV × St)}
structure Rdy (w : Ws) (h1 : Heap) (src : Src) (i : Addr) (O : List Addr) : Prop where
 keep : ∀ a o, w.s.heap.get? a = some o → h1.get? a = some o
 fresh : ∀ a ∈ O, w.s.heap.get? a = none
 rel : IRel (Hd w.U O) w.ρ h1 0 src i O
noncomputable def CO (w : Ws) (v : Value) (src : Src) : Prop := ∃ l items T, v = .ref l ∧ Cont w.s.heap l items T ∧ src.pairs = false ∧ ∀ {h1 : Heap} {i : Addr} {O : List Addr}, (∀ a ∈ O, w.s.heap.get? a = none) → (∀ a o, w.s.heap.get? a = some o → h1.get? a = some o) → BIt h1 i l items 0 →
 BR (Hd w.U O) w.ρ h1 0 src i ∧ (O = [i] → IRel (Hd w.U O) w.ρ h1 0 src i O)
theorem cont_of (r : VR w u val) : Op (CO w val) (srcO u w.H) :=
 Op.alt (r.osL (CO w) fun j a xs vs n ha e r => Op.some ⟨a, _, "list", rfl, .lists ⟨_, e, rfl, _, rfl⟩, rfl, fun _ hk bi => ⟨⟨a, ha, bi.isl (hk _ _ e)⟩, fun q => ⟨q, a, ha, bi.isl (hk _ _ e)⟩⟩⟩)
  (r.osT (CO w) fun xs a vs n e r z => Op.some ⟨a, _, "tuple", rfl, .tuples ⟨_, e, rfl, _, rfl⟩, rfl, fun {h1 i O} hO hk bi =>
   have m := (Mv.hide hO hk : Mv w.U (Hd w.U O) w.ρ w.ρ w.s.heap h1)
   have x : BR (Hd w.U O) w.ρ h1 0 (.tup xs) i := ⟨a, vs, n, (m.tp _ _ _ e z).1, (m.tp _ _ _ e z).2, VRels.map m r, bi.ist (hk _ _ e)⟩
   ⟨x, fun q => ⟨q, x⟩⟩⟩)
theorem pushk {h : Heap} (o : Obj) : ∀ a x, h.get? a = some x → (h.push o).get? a = some x := fun _ _ e => Heap.get?_push_of_some _ e
noncomputable def It1 (A : Around) (w : Ws) (v : Value) (src : Src) : Prop := ∀ (Q E : Value → Shared → Prop), (∀ h1 i O, Rdy w h1 src i O → src.pairs = false → Q (.ref i) { w.s with heap := h1 }) → wpAny M0 A (pyIter v) Q E w.s
theorem src_iter (r : VR w u val) : Op (It1 A w val) (srcOf u w.H) := by
 refine Op.alt (fun src e Q E k => ?_) (r.osG (It1 A w) fun p q c a t0 t1 t2 hr => Op.gd fun hz => Op.some fun Q E k => ?_)
 ·obtain ⟨l, items, T, rfl, cc, pr, rel⟩ := cont_of r src e
  have fresh : ∀ a ∈ [w.s.heap.objs.size], w.s.heap.get? a = none := all1 (none_at (Nat.le_refl _))
  exact cc.pyIter (k _ _ _ ⟨pushk _, fresh, (rel fresh (pushk _) (cc.bit (Heap.get?_push_size _ rfl) (pushk _ l))).2 rfl⟩ pr)
 ·obtain ⟨hz, z4⟩ := and_split hz
  obtain ⟨hz, z3⟩ := and_split hz
  obtain ⟨z1, z2⟩ := and_split hz
  refine wpAny_pyIter_range hr (rng_small z1 z2 z3) (k _ _ _ ⟨pushk _, all1 (none_at (Nat.le_refl _)), rfl, ?_⟩ rfl)
  rw [show p + ((0 : Nat) : Int) * c = p by simp, show (rangeN p q c : Int) - ((0 : Nat) : Int) = Builtin.Range.rangeSize p q c by rw [rangeN_eq (eqI_ne z4)]; simp]
  exact Heap.get?_push_size _ rfl
theorem evs1 {γ : Type} {f : X → St → Option (AV × St)} {x : X} {H : St} {g : List AV → St → Option γ} : ob2 (evs f [x] H) g = ob2 (f x H) fun v H => g [v] H := by
 show ob2 (ob2 (f x H) _) g = _
 cases f x H with
 | none => rfl
 | some p => rfl
theorem evs2 {γ : Type} {f : X → St → Option (AV × St)} {x y : X} {H : St} {g : List AV → St → Option γ} : ob2 (evs f [x, y] H) g = ob2 (f x H) fun u H => ob2 (f y H) fun v H => g [u, v] H := by
 show ob2 (ob2 (f x H) fun v H => ob2 (evs f [y] H) _) g = _
 cases f x H with
 | none => rfl
 | some p =>
  show ob2 (ob2 (evs f [y] p.2) _) g = ob2 (f y p.2) _
  rw [evs1]
  cases f y p.2 with
  | none => rfl
  | some q => rfl
noncomputable def ItT (A : Around) (t : Sem Value) (s : Shared) (Q' : Heap × Value → Shared → Prop) (E : Value → Shared → Prop) : Prop := ∀ Q : Value → Shared → Prop, (∀ h1 v s, Q' (h1, v) s → Q v { s with heap := h1 }) → wpAny M0 A t (fun x s1 => wpAny M0 A (pyIter x) Q E s1) E s
noncomputable def RdyR (p : Bool) (w : Ws) (src : Src) (v : Heap × Value) : Prop := ∃ i O, v.2 = .ref i ∧ Rdy w v.1 src i O ∧ (src.pairs = true → p = true)
theorem ItT.call (ok : Ok0) (I : SndE n ev) (hn : n ≤ K.n) {kf : Nat} {T : String} {ys : List X} {np p : Pos} {pr : Bool} {f : List AV → St → Option (Src × St)} (hg : isG K.kd kf = true) (hb : C0.mg (nm kf) = none ∧ C0.mb (nm kf) = some (Value.type T)) (ho : okXs K ys) (c : Conf K lo w)
  (h : ∀ w' vs vals, VRs w' vs vals → Ev K.b none (Pr (RdyR pr)) w' (ItT K.A (PySem.call (.type T) vals) w'.s) (f vs w'.H)) : Ev K.b none (Pr (RdyR pr)) w (ItT K.A (eval (.Call (.Name (nm kf) np) (toEs ys) [] p) K.env) w.s) (ob2 (evs (fun x H => ev x lo K.ce K.b H) ys w.H) f) := by
 refine Ev.bind (args_snd I hn ho c) (G := fun vals s => ItT K.A (PySem.call (.type T) vals) s) (fun Q' E h Q hq => ?_) fun w1 vs vals l1 r1 => h w1 vs vals r1
 show wpAny _ _ (do callWith p (← eval (.Name (nm kf) np) K.env) [] (backTo p (starEach (toEs ys) K.env)) (backToKw p (keywordEach [] K.env))) _ E w.s
 rw [back_args K.env p ys ho]
 refine wpAny_bind (wpAny_Name (glb_load ok hg (.inr hb) _ E ?_) (nm_debug _))
 exact PySem.callWith_type any_plain (evalArgs_list _ E (wpAny_mono h (fun vals s g => g Q hq) fun _ _ e => e))
theorem ItT.call1 (ok : Ok0) (I : SndE n ev) (hn : n ≤ K.n) {kf : Nat} {T : String} {x : X} {np p : Pos} {pr : Bool} {f : AV → St → Option (Src × St)} (hg : isG K.kd kf = true) (hb : C0.mg (nm kf) = none ∧ C0.mb (nm kf) = some (Value.type T)) (ho : okX K x) (c : Conf K lo w)
  (h : ∀ w' u val, VR w' u val → Ev K.b none (Pr (RdyR pr)) w' (ItT K.A (PySem.call (.type T) [val]) w'.s) (f u w'.H)) : Ev K.b none (Pr (RdyR pr)) w (ItT K.A (eval (.Call (.Name (nm kf) np) [x.toE] [] p) K.env) w.s) (ob2 (ev x lo K.ce K.b w.H) f) := by
 have z := ItT.call (ys := [x]) (np := np) (p := p) (f := fun vs H => tk1 vs fun u => f u H) ok I hn hg hb (Bool.and_eq_true_iff.mpr ⟨ho, rfl⟩) c fun w' vs vals rs => VRs.o1 rs (fun v => EvP K.b none (Pr (RdyR pr)) w' (ItT K.A (PySem.call (.type T) v) w'.s)) (h w')
 rw [evs1] at z
 exact z
theorem iter_snd (ok : Ok0) (I : SndE n ev) (hn : n ≤ K.n) {it : It} (hok : it.ok C0.P K.kd K.tq = true) (c : Conf K lo w) : Ev K.b none (Pr (RdyR it.pairs)) w (ItT K.A (eval it.toE K.env) w.s) (itM (fun x H => ev x lo K.ce K.b H) it w.H) := by
 cases it with
 | pl x =>
  exact Ev.bind (I x K lo w hn hok c) (G := fun v s Q' E => ∀ Q : Value → Shared → Prop, (∀ h1 v s, Q' (h1, v) s → Q v { s with heap := h1 }) → wpAny M0 K.A (pyIter v) Q E s) (fun Q' E h Q hq => wpAny_mono h (fun v s g => g Q hq) fun _ _ e => e) fun w1 u val l1 r1 =>
   Ev.ob1 fun src e => Op.some fun Q' E q Q hq => src_iter r1 src e Q E fun h1 i O rd pr => hq h1 _ _ (q w1 (h1, .ref i) Le.refl ⟨rfl, i, O, rfl, rd, fun z => nomatch pr.symm.trans z⟩)
 | en x np p =>
  obtain ⟨hg, hok⟩ := and_split hok
  refine ItT.call1 ok I hn hg (ok.bl 82 (.type "enumerate") (by simp)) hok c fun w1 u val r => Ev.ob1 fun src e => Op.some fun Q' E q Q hq => ?_
  obtain ⟨l, items, T, rfl, cc, pr, rel⟩ := cont_of r src e
  refine call_enum cc fun h2 he bi hsz kp => wpAny_pyIter_enum he (hq h2 _ _ (q w1 (h2, .ref _) Le.refl ⟨rfl, _, [w1.s.heap.objs.size + 1, w1.s.heap.objs.size], rfl, ?_, fun _ => rfl⟩))
  have fresh : ∀ a ∈ [w1.s.heap.objs.size + 1, w1.s.heap.objs.size], w1.s.heap.get? a = none := all2 (none_at (Nat.le_succ _)) (all1 (none_at (Nat.le_refl _)))
  exact ⟨kp, fresh, _, _, rfl, (rel fresh kp bi).1, he, Nat.succ_ne_self _⟩
 | zp x y np p =>
  obtain ⟨hok, hy⟩ := and_split hok
  obtain ⟨hg, hx⟩ := and_split hok
  have z := ItT.call (ys := [x, y]) (np := np) (p := p) (f := fun vs H => tk2 vs fun v w => ob1 (srcO v H) fun s => ob1 (srcO w H) fun t => some (Src.zp s t, H)) (pr := true) ok I hn hg (ok.bl 108 (.type "zip") (by simp)) (Bool.and_eq_true_iff.mpr ⟨hx, Bool.and_eq_true_iff.mpr ⟨hy, rfl⟩⟩) c fun w1 vs vals rs => ?_
  ·rw [evs2] at z
   exact z
  refine VRs.o2 rs (fun v => EvP K.b none (Pr (RdyR true)) w1 (ItT K.A (PySem.call (.type "zip") v) w1.s)) fun u u2 val val2 r r2 => Ev.ob1 fun src e => Ev.ob1 fun src2 e2 => Op.some fun Q' E q Q hq => ?_
  obtain ⟨l, xs, T, rfl, cc, pr, rel⟩ := cont_of r src e
  obtain ⟨l2, ys, T2, rfl, cc2, pr2, rel2⟩ := cont_of r2 src2 e2
  refine call_zip cc cc2 fun h2 z1 z2 z3 z4 z5 hsz kp => wpAny_pyIter_zip z1 (hq h2 _ _ (q w1 (h2, .ref _) Le.refl ⟨rfl, _, [w1.s.heap.objs.size + 4, w1.s.heap.objs.size + 2, w1.s.heap.objs.size + 3, w1.s.heap.objs.size, w1.s.heap.objs.size + 1], rfl, ?_, fun _ => rfl⟩))
  have fresh : ∀ a ∈ [w1.s.heap.objs.size + 4, w1.s.heap.objs.size + 2, w1.s.heap.objs.size + 3, w1.s.heap.objs.size, w1.s.heap.objs.size + 1], w1.s.heap.get? a = none :=
   all2 (none_at (Nat.le_add_right _ _)) (all2 (none_at (Nat.le_add_right _ _)) (all2 (none_at (Nat.le_add_right _ _)) (all2 (none_at (Nat.le_refl _)) (all1 (none_at (Nat.le_succ _))))))
  exact ⟨kp, fresh, _, _, _, _, _, _, rfl, (rel fresh kp z4).1, (rel2 fresh kp z5).1, z1, z2, z3, by simp⟩
 | rv x np p =>
  obtain ⟨hg, hok⟩ := and_split hok
  refine ItT.call1 ok I hn hg (ok.bl 41 (.type "reversed") (by simp)) hok c fun w1 u val r => ?_
  refine r.osL (fun v => EvP K.b none (Pr (RdyR false)) w1 (ItT K.A (PySem.call (.type "reversed") [v]) w1.s)) fun i a xs vs m ha e3 r1 => Op.gd fun _ => Op.some fun Q' E q Q hq => ?_
  have hrev : (w1.s.heap.push (revObj a ((vs.toArray.size : Int) - 1))).IsRevIter w1.s.heap.objs.size a ((xs.length : Int) - 1 - (0 : Nat)) := ⟨_, Heap.get?_push_size _ rfl, rfl, by
   show Data.fields #[.ref a, rawInt ((vs.toArray.size : Int) - 1)] = _
   rw [List.size_toArray, ← VRs.length r1]; simp⟩
  exact call_reversed_list ⟨_, e3, rfl, _, rfl⟩ (wpAny_pyIter_revIter hrev (hq _ _ _ (q w1 (_, .ref _) Le.refl ⟨rfl, _, [w1.s.heap.objs.size], rfl, ⟨pushk _, all1 (none_at (Nat.le_refl _)), rfl, Nat.zero_le _, a, ha, hrev⟩, fun z => z⟩)))
theorem iter_use (ok : Ok0) (I : SndE n ev) (hn : n ≤ K.n) {it : It} (hok : it.ok C0.P K.kd K.tq = true) (c : Conf K lo w) : Op (fun r : Src × St => ∀ Q E, (∀ w1 h1 i O, Le K.b none w w1 → w1.H = r.2 → Rdy w1 h1 r.1 i O → (r.1.pairs = true → it.pairs = true) → Q (.ref i) { w1.s with heap := h1 }) →
  wpAny M0 K.A (eval it.toE K.env) (fun x s1 => wpAny M0 K.A (pyIter x) Q E s1) E w.s) (itM (fun x H => ev x lo K.ce K.b H) it w.H) := fun r e Q E k => iter_snd ok I hn hok c r e (fun a s => Q a.2 { s with heap := a.1 }) E (fun w1 v l1 r1 => by
 obtain ⟨eH, i, O, ev, rd, hp⟩ := r1
 rw [ev]
 exact k w1 v.1 i O l1 eH rd hp) Q fun _ _ _ h => h
end
section
variable {A : Around} {b n k : Nat} {w w' w0 w2 w3 : Ws} {O : List Addr} {it i : Addr} {src : Src} {u : AV} {val : Value} {K : Kn} {lo lo' : Lo} {h1 h' : Heap}
variable {ev : X → Lo → Ce → Nat → St → Option (AV × St)} {tv : X → Lo → Ce → Nat → St → Option (Bool × St)} {ex : List S → Lo → Ce → Nat → St → Option (RF × Lo × St)}
section
variable {α β γ : Type} {r : γ}
theorem ob1_inv {o : Option α} {f : α → Option γ} (h : ob1 o f = some r) : ∃ p, o = some p ∧ f p = some r := by
 cases o with
 | none => cases h
 | some p => exact ⟨p, rfl, h⟩
theorem ob2_inv {o : Option (α × β)} {f : α → β → Option γ} (h : ob2 o f = some r) : ∃ p, o = some p ∧ f p.1 p.2 = some r := by
 cases o with
 | none => cases h
 | some p => exact ⟨p, rfl, h⟩
theorem obX_inv {o : Option (RF × Lo × St)} {f : Lo → St → Option γ} {g : AV → Lo → St → Option γ} (h : obX o f g = some r) : ∃ p, o = some p ∧ ((p.1 = .nx ∧ f p.2.1 p.2.2 = some r) ∨ ∃ v, p.1 = .rt v ∧ g v p.2.1 p.2.2 = some r) := by
 cases o with
 | none => cases h
 | some p =>
  obtain ⟨x, lo, H⟩ := p
  cases x with
  | nx => exact ⟨_, rfl, .inl ⟨rfl, h⟩⟩
  | rt v => exact ⟨_, rfl, .inr ⟨v, rfl, h⟩⟩
end
theorem Conf.mv (c : Conf K lo w) (m : Mv w.U w'.U w.ρ w'.ρ w.s.heap w'.s.heap) (e : w'.ρ = w.ρ) (hL : ∀ o, w.s.heap.get? K.L = some o → w'.s.heap.get? K.L = some o) : Conf K lo w' := by
 obtain ⟨mm, n, r⟩ := c.F
 exact ⟨⟨mm, ns_at n hL, fun k v e => (r k v e).imp fun _ q => ⟨q.1, VRel.map m q.2⟩⟩, fun k i e' => e ▸ c.cell k i e', ⟨c.O.base, e ▸ c.O.apart, c.O.tab⟩⟩
structure Lg (b : Nat) (L : Option Addr) (w0 w2 : Ws) (O : List Addr) : Prop where
 U : w2.U = Hd w0.U O
 p : Post w2.U b w0.ρ L w0.s.heap w2.ρ w2.H w2.s.heap
 t : w0.s.toks ≤ w2.s.toks
 s : w2.s = { w0.s with heap := w2.s.heap, toks := w2.s.toks }
 own : Own w2.U w2.ρ O
 fr : ∀ a ∈ O, w0.s.heap.get? a = none
 LO : ∀ a, L = some a → a ∉ O
noncomputable abbrev Lp (K : Kn) (w0 w2 : Ws) (O : List Addr) : Prop := Lg K.b (some K.L) w0 w2 O
noncomputable def Rdy.ws (rd : Rdy w h1 src i O) : Ws := ⟨Hd w.U O, w.ρ, w.H, { w.s with heap := h1 }, w.S.hide rd.fresh rd.keep fun a m => (rd.rel.soft a m).imp fun _ q => q.1, w.t⟩
theorem Lp.init (rd : Rdy w h1 src i O) (LO : K.L ∉ O) : Lp K w rd.ws O := ⟨rfl, ⟨rd.ws.S, Evo.of rd.keep, Ext.refl, Fresh.refl⟩, Nat.le_refl _, rfl, Own.new w.S rd.fresh, rd.fresh, fun a q => Option.some.inj q ▸ LO⟩
theorem Lp.start (c : Conf K lo w) (rd : Rdy w h1 src i O) : Lp K w rd.ws O ∧ Conf K lo rd.ws := by
 refine ⟨Lp.init rd fun m => ?_, c.mv (w' := rd.ws) (Mv.hide rd.fresh rd.keep) rfl fun o => rd.keep _ o⟩
 obtain ⟨o, _, _, e, _⟩ := c.dic K.L rfl
 exact nomatch (rd.fresh _ m).symm.trans e
theorem Lg.own' {L : Option Addr} {tk : Nat} (l : Lg b L w0 w2 O) (sf : Softs w2.s.heap O) (kp : Kp O w2.s.heap h') (al : ∀ a ∈ O, ∃ o, h'.get? a = some o) (ht : w2.s.toks ≤ tk) : ∃ w3, w3.s = { w2.s with heap := h', toks := tk } ∧ w3.H = w2.H ∧ w3.ρ = w2.ρ ∧ Mv w2.U w3.U w2.ρ w3.ρ w2.s.heap w3.s.heap ∧ Lg b L w0 w3 O :=
 have S3 := l.own.rel w2.S sf kp (fun _ q => q) fun a m _ => al a m
 ⟨⟨w2.U, w2.ρ, w2.H, { w2.s with heap := h', toks := tk }, S3, Nat.lt_of_lt_of_le w2.t ht⟩, rfl, rfl, rfl, l.own.mv sf kp fun _ q => q, l.U, ⟨S3, l.p.E.own l.fr kp, l.p.X, l.p.N⟩, Nat.le_trans l.t ht, congrArg (fun z : Shared => { z with heap := h', toks := tk }) l.s, l.own, l.fr, l.LO⟩
theorem Lg.stp {L : Option Addr} (l : Lg b L w0 w2 O) (st : Stp O k src it w2 w3) : Lg b L w0 w3 O :=
 ⟨st.U.trans l.U, ⟨w3.S, l.p.E.own l.fr st.kp, st.ρ ▸ l.p.X, st.ρ ▸ l.p.N⟩, Nat.le_trans l.t st.t, st.sh.trans (by rw [l.s]), st.U ▸ st.ρ ▸ l.own, l.fr, l.LO⟩
theorem Lg.le {L : Option Addr} (l : Lg b L w0 w2 O) (q : Le b L w2 w3) (sf : Softs w2.s.heap O) : Lg b L w0 w3 O :=
 ⟨q.u.trans l.U, q.u.symm ▸ l.p.trans q.p, Nat.le_trans l.t q.t, q.s.trans (by rw [l.s]), q.u.symm ▸ l.own.next sf q.p.X q.p.N, l.fr, l.LO⟩
theorem Lg.ir {L : Option Addr} (l : Lg b L w0 w2 O) (q : Le b L w2 w3) (D : Dic L w2.s.heap) (ir : IRel w2.U w2.ρ w2.s.heap k src it O) : IRel w3.U w3.ρ w3.s.heap k src it O :=
 ir.next (q.mv D) (l.own.kept q.p.E fun a m z => l.LO a z m)
theorem Lg.close {L : Option Addr} (l : Lg b L w0 w2 O) (sf : Softs w2.s.heap O) (kp : Kp O w2.s.heap h') : ∃ w', Le b L w0 w' ∧ w'.H = w2.H ∧ w'.s = { w2.s with heap := h' } ∧ w'.ρ = w2.ρ ∧ Mv w2.U w'.U w2.ρ w'.ρ w2.s.heap w'.s.heap :=
 have hU : ∀ a, w0.U a → w2.U a := fun a q => l.U.symm ▸ .inl q
 have S2 := l.own.rel w2.S sf kp hU fun a m q => let ⟨_, e⟩ := w0.S.hid a q; nomatch (l.fr a m).symm.trans e
 ⟨⟨w0.U, w2.ρ, w2.H, { w2.s with heap := h' }, S2, w2.t⟩, ⟨⟨S2, l.p.E.own l.fr kp, l.p.X, l.p.N⟩, l.t, rfl, congrArg (fun z : Shared => { z with heap := h' }) l.s⟩, rfl, rfl, rfl, l.own.mv sf kp hU⟩
theorem folded_it {it : It} {kd : List (Nat × K3)} {tq : Nat} {P : List Fn} (hok : it.ok P kd tq = true) (env : Env) (x : Value) : foldedSetIterable it.toE env x = pure x := by
 cases it with
 | pl y => cases y <;> first | rfl | cases hok
 | _ => rfl
noncomputable def ExE (Es : RF × Lo × St → Value → Shared → Prop) (K : Kn) (w : Ws) (t : Sem Flow) (o : Option (RF × Lo × St)) : Prop :=
 Op (fun r => ∀ Q E, (∀ w' v, Le K.b (some K.L) w w' → XR K w' r v → Q v w'.s) → (∀ v s, Es r v s → Q (.ret v) s) → wpAny M0 K.A t Q E w.s) o
theorem for_gen {Es : RF × Lo × St → Value → Shared → Prop} {EJ : Ws → RF × Lo × St → Value → Shared → Prop} (ok : Ok0) (I : SndE n ev) (hn : n ≤ K.n) {t : Tg} {it : It} {body : List S} {p : Pos} (htg : t.ok K.kd = true) (hit : it.ok C0.P K.kd K.tq = true) (hpt : (!it.pairs || t.isTup) = true)
  (J : ∀ O w0 w2 lo1, Le K.b none w w0 → Lp K w0 w2 O → Softs w2.s.heap O → Conf K lo1 w2 → ExE (EJ w2) K w2 (execs (toSs body) K.env) (ex body lo1 K.ce K.b w2.H) ∧ ∀ r v s, EJ w2 r v s → (∃ u, r.1 = .rt u) ∧ Es r v s)
  (c : Conf K lo w) : ExE Es K w (exec (S.fors t it body p).toS K.env) (ob2 (itM (fun x H => ev x lo K.ce K.b H) it w.H) fun s H => turns (·.2.2) (fun v (a : RF × Lo × St) => ob2 (asgM t v a.2.1 K.ce K.b a.2.2) fun lo H =>
   obX (ex body lo K.ce K.b H) (fun lo H => some ((.nx, lo, H), true)) fun v lo H => some ((.rt v, lo, H), false)) s MAXT 0 (.nx, lo, H)) := by
 intro r ez Q E kont esc
 obtain ⟨⟨src, H1⟩, e1, ez⟩ := ob2_inv ez
 refine wpAny_For (iter_use ok I hn hit c _ e1 _ E fun w1 h1 i O l1 eH rd hp => ?_) (folded_it hit K.env)
 have hp : src.pairs = true → t.isTup = true := fun q => by rw [hp q] at hpt; exact hpt
 obtain ⟨l2, c2⟩ := Lp.start (c.up l1) rd
 refine codeAny_forLoop_any (fun m s' => ∃ k lo2 w2, s' = w2.s ∧ turns (·.2.2) (fun v (a : RF × Lo × St) => ob2 (asgM t v a.2.1 K.ce K.b a.2.2) fun lo H =>
   obX (ex body lo K.ce K.b H) (fun lo H => some ((RF.nx, lo, H), true)) fun v lo H => some ((.rt v, lo, H), false)) src m k (.nx, lo2, w2.H) = some r ∧ Lp K w1 w2 O ∧ Conf K lo2 w2 ∧ IRel w2.U w2.ρ w2.s.heap k src i O) (fun m s' hI => ?_) MAXT ⟨0, lo, rd.ws, rfl, eH.symm ▸ ez, l2, c2, rd.rel⟩
 obtain ⟨k, lo2, w2, rfl, ez, l2, c2, ir2⟩ := hI
 cases m with
 | zero => cases ez
 | succ m =>
  obtain ⟨v, e2, ez⟩ := ob1_inv ez
  refine nx_snd K.R hp l2.own ir2 v e2 _ _ _ (fun x s₁ h => h) (fun x w3 val hv st rv => ?_) fun hv h3 kp => ?_
  ·subst hv
   obtain ⟨⟨a, go⟩, e3, ez⟩ := ob2_inv ez
   obtain ⟨⟨lo4, H4⟩, e4, e3⟩ := ob2_inv e3
   have c3 := c2.mv st.mv st.ρ fun o => st.kp _ o (l2.LO _ rfl)
   have l3 := l2.stp st
   refine assign_snd c3 K.R htg rv (lo4, H4) (st.H ▸ e4) _ _ fun w4 _ q4 F4 => ?_
   have c4 := c3.upL q4 F4.2
   obtain ⟨⟨x5, lo5, H5⟩, e5, e3⟩ := obX_inv e3
   have l4 := l3.le q4 st.ir.soft
   have ir4 := l3.ir q4 c3.dic st.ir
   obtain ⟨j1, j2⟩ := J O w1 w4 lo4 l1 l4 ir4.soft c4
   refine j1 _ (F4.1 ▸ e5) _ _ (fun w5 fl q5 F5 => ?_) fun v5 s5 he => ?_
   ·have l5 := l4.le q5 ir4.soft
    have ir5 := l4.ir q5 c4.dic ir4
    rcases e3 with ⟨rfl, e3⟩ | ⟨u, rfl, e3⟩
    ·obtain ⟨rfl, rfl⟩ := Prod.mk.inj (sI1 e3)
     cases fl <;> try exact F5.2.2.elim
     exact ⟨m, Nat.lt_succ_self m, k + 1, lo5, w5, rfl, F5.1 ▸ ez, l5, c4.upL q5 F5.2.1, ir5⟩
    ·obtain ⟨rfl, rfl⟩ := Prod.mk.inj (sI1 e3)
     obtain rfl := sI1 ez
     cases fl <;> try exact F5.2.2.elim
     obtain ⟨w6, q6, eH6, es6, eρ6, m6⟩ := l5.close ir5.soft fun _ _ _ e => e
     show Q (.ret _) w5.s
     rw [show w5.s = w6.s from es6.symm]
     exact kont w6 (.ret _) (l1.widen.trans q6) ⟨eH6.trans F5.1, ((c4.upL q5 F5.2.1).mv m6 eρ6 fun o e => by rw [es6]; exact e).F, VRel.map m6 F5.2.2⟩
   ·obtain ⟨⟨u, rfl⟩, he⟩ := j2 _ _ _ he
    rcases e3 with ⟨z, _⟩ | ⟨_, z, e3⟩
    ·cases z
    ·cases z
     obtain ⟨rfl, rfl⟩ := Prod.mk.inj (sI1 e3)
     obtain rfl := sI1 ez
     exact esc v5 s5 he
  ·subst hv
   obtain rfl := sI1 ez
   obtain ⟨w6, q6, eH6, es6, eρ6, m6⟩ := l2.close ir2.soft kp
   refine wpAny_execs_nil ?_
   rw [show ({ w2.s with heap := h3 } : Shared) = w6.s from es6.symm]
   exact kont w6 .next (l1.widen.trans q6) ⟨eH6, (c2.mv m6 eρ6 fun o e => by rw [es6]; exact kp _ o (l2.LO _ rfl) e).F, trivial⟩
end
section
variable {A : Around} {b n : Nat} {w w' : Ws} {u x : AV} {v : Value} {xs : List AV} {vs : List Value} {K : Kn} {lo lo' : Lo}
variable {ev : X → Lo → Ce → Nat → St → Option (AV × St)} {tv : X → Lo → Ce → Nat → St → Option (Bool × St)} {ex : List S → Lo → Ce → Nat → St → Option (RF × Lo × St)}
theorem VRs.setN (r : VR w x v) (rs : VRs w xs vs) (k : Nat) : VRs w (Mine.setN x xs k) (vs.set k v) := by
 induction xs generalizing vs k with
 | nil => cases rs; exact rfl
 | cons y ys ih =>
  obtain ⟨z, ws, rfl, a, c⟩ := rs
  cases k with
  | zero => exact ⟨_, _, rfl, r, c⟩
  | succ k => exact ⟨_, _, rfl, a, ih c k⟩
theorem VRs.erase (rs : VRs w xs vs) (k : Nat) : VRs w (xs.eraseIdx k) (vs.eraseIdx k) := by
 induction xs generalizing vs k with
 | nil => cases rs; exact rfl
 | cons y ys ih =>
  obtain ⟨z, ws, rfl, a, c⟩ := rs
  cases k with
  | zero => exact c
  | succ k => exact ⟨_, _, rfl, a, ih c k⟩
theorem setItem_exact {prog : Program} {w : World} {s : Shared} {E : Value → Shared → Prop} {l : Addr} {items : Array Value} {m : Nat} {k : Int} {t : Tok} {v : Value} {Q : Unit → Shared → Prop} (ho : s.heap.get? l = some { cls := .type "list", data := .seq items m }) (h0 : 0 ≤ k) (hfit : k < 2 ^ 63) (hn : k < items.size)
  (q : Q () { s with heap := s.heap.update l (Obj.mapSeq (·.setIfInBounds k.toNat v)) }) : wpAny (model prog w) A (setItem (.ref l) (.int k t) v) Q E s := by
 have hT : s.TypeIs (.ref l) "list" := ⟨_, ho, rfl⟩
 unfold setItem
 try with_reducible refine wpAny_holding ?_
 first | refine wpAny_bind (wpAny_pure ?_) | skip
 refine wpAny_bind (wpAny_sequenceKey hT (by decide) ?_)
 refine wpAny_bind (wpAny_callSpecial?_slot (name := Str.ofString "__setitem__") hT PySem.slot_list_setitem (wpAny_call_entry PySem.slot_list_setitem hT PySem.entry_list_setitem ?_ (PySem.args_list_setitem _ _ _)))
 show wpAny _ _ (Builtin.List.listSubscript? (.int k t) >>= _) _ _ s
 refine wpAny_bind (wpAny_listSubscript_int (fitsIndex_of h0 hfit) ?_)
 clear hfit
 obtain ⟨j, rfl⟩ := Int.eq_ofNat_of_zero_le h0
 have hj : j < items.size := by (first | lia | omega)
 show wpAny _ _ ((seqItemAt l j >>= fun r => pure (r.map (j, ·))) >>= _) _ _ s
 refine wpAny_bind (wpAny_bind (wpAny_seqItemAt ho rfl (wpAny_pure ?_)))
 rw [Array.getElem?_eq_getElem hj]
 show wpAny _ _ (setSeqItemAt l j v >>= _) _ _ s
 refine wpAny_bind (wpAny_setSeqItemAt ho rfl ?_)
 first
  | exact wpAny_bind (wpAny_pure (wpAny_pure ⟨.none, rfl, wpAny_pure q⟩))
  | exact wpAny_pure ⟨.none, rfl, wpAny_pure q⟩
theorem Ex.nx (c : Conf K lo w) : Ev K.b (some K.L) (XR K) w (fun Q E => Q .next w.s) (some (.nx, lo, w.H)) := Op.some fun Q E q => q w .next Le.refl ⟨rfl, c.F, trivial⟩
theorem x_if (T : SndT n tv) (J : SndX n ex) (hn : n ≤ K.n) {c : X} {t e : List S} {p : Pos} (h1 : okX K c) (h2 : okSS K t) (h3 : okSS K e) (cf : Conf K lo w) : Ex K w (exec (S.ifs c t e p).toS K.env) (obB (tv c lo K.ce K.b w.H) (fun H => ex t lo K.ce K.b H) fun H => ex e lo K.ce K.b H) :=
 Ev.bB (T c K lo w hn h1 cf) (G := fun b s Q E => if b = true then wpAny M0 K.A (execs (toSs t) K.env) Q E s else wpAny M0 K.A (execs (toSs e) K.env) Q E s) (fun Q E h => wpAny_If h)
  (fun w1 l1 => Ev.to (J t K lo w1 hn h2 (cf.up l1)) fun Q E h => (if_pos rfl).mpr h) fun w1 l1 => Ev.to (J e K lo w1 hn h3 (cf.up l1)) fun Q E h => (if_neg Bool.false_ne_true).mpr h
theorem x_ret (I : SndE n ev) (hn : n ≤ K.n) {e : X} {p : Pos} (h1 : okX K e) (cf : Conf K lo w) : Ex K w (exec (S.ret e p).toS K.env) (ob2 (ev e lo K.ce K.b w.H) fun v H => some (.rt v, lo, H)) :=
 Ev.bind (I e K lo w hn h1 cf) (G := fun v s Q E => Q (.ret v) s) (fun Q E h => wpAny_Return_some h) fun w1 u v l1 r1 => Op.some fun Q E q => q w1 (.ret v) Le.refl ⟨rfl, (cf.up l1).F, r1⟩
theorem x_asrt (T : SndT n tv) (hn : n ≤ K.n) {c : X} {p : Pos} (h1 : okX K c) (cf : Conf K lo w) : Ex K w (exec (S.asrt c p).toS K.env) (obB (tv c lo K.ce K.b w.H) (fun H => some (.nx, lo, H)) fun _ => none) :=
 Ev.bB (T c K lo w hn h1 cf) (G := fun b s Q E => b = true ∧ Q .next s) (fun Q E h => wpAny_Assert_holds h) (fun w1 l1 => Ev.to (Ex.nx (cf.up l1)) fun Q E h => ⟨rfl, h⟩) fun _ _ => Ev.none
theorem x_exprO {e : Expr} {p : Pos} {o : Option (AV × St)} (h : Ea K.A K.b w (eval e K.env) o) (hs : swapsWith e none p.line K.env = pure false) (cf : Conf K lo w) : Ex K w (exec (.Expr e p) K.env) (ob2 o fun v H => asN v <| some (.nx, lo, H)) :=
 Ev.bind h (G := fun v s Q E => v = Value.none ∧ Q .next s) (fun Q E h => wpAny_Expr (wpAny_mono h (fun v s g => by obtain ⟨rfl, g⟩ := g; exact g) fun _ _ e => e) (by unfold interactive; rw [K.kind]; rfl) hs)
  fun w1 u v l1 r1 => r1.osN (fun v => EvP K.b (some K.L) (XR K) w1 fun Q E => v = Value.none ∧ Q .next w1.s) (Ev.to (Ex.nx (cf.up l1)) fun Q E h => ⟨rfl, h⟩)
theorem x_expr (I : SndE n ev) (hn : n ≤ K.n) {e : X} {p : Pos} (h1 : okX K e) (hs : swapsWith e.toE none p.line K.env = pure false) (cf : Conf K lo w) : Ex K w (exec (.Expr e.toE p) K.env) (ob2 (ev e lo K.ce K.b w.H) fun v H => asN v <| some (.nx, lo, H)) := x_exprO (I e K lo w hn h1 cf) hs cf
theorem nx_store {t : Sem Unit} {o : Option (Lo × St)} (h : Ev K.b (some K.L) (Pr (FrL K)) w (wq A t w) o) : Ev K.b (some K.L) (XR K) w (fun Q E => wpAny M0 A t (fun _ => Q .next) E w.s) (nxM o) :=
 Ev.bindL h (G := fun _ s Q E => Q .next s) (fun Q E h => h) fun w1 lo1 _ l1 F1 => Op.some fun Q E q => q w1 .next Le.refl ⟨rfl, F1, trivial⟩
theorem notCe {k : Nat} (hk : isLoc K.kd k = true) : lkp k K.ce = none := by
 cases q : lkp k K.ce with
 | none => rfl
 | some i => exact nomatch (isLoc_notCl hk).symm.trans (K.ceCl k i q)
theorem store_loc (c : Conf K lo w) {k : Nat} (hk : isLoc K.kd k = true) (r : VR w x v) : Ev K.b (some K.L) (XR K) w (fun Q E => wpAny M0 A (storeName K.env (nm k) v) (fun _ => Q .next) E w.s) (some (.nx, setL k x lo, w.H)) := by
 have h := nx_store (store_snd (A := A) c (Bool.or_eq_true_iff.mpr (.inl hk)) r)
 unfold storeM at h
 rw [notCe hk] at h
 exact h
theorem x_aug (I : SndE n ev) (hn : n ≤ K.n) {k : Nat} {kp : Pos} {op : Operator} {e : X} {p : Pos} (hk : isLoc K.kd k = true) (h1 : okX K e) (cf : Conf K lo w) : Ex K w (exec (S.aug k kp op e p).toS K.env) (ob1 (lkp k lo) fun u => asI u fun x => ob2 (ev e lo K.ce K.b w.H) fun v H => asI v fun y => match op with
  | .Add => some (.nx, setL k (.int (x + y)) lo, H)
  | .Sub => some (.nx, setL k (.int (x - y)) lo, H)
  | _ => none) := by
 refine Ev.ob1 fun u e0 => ?_
 have e1 : varM k lo K.ce w.H = some u := by unfold varM; rw [notCe hk]; exact e0
 obtain ⟨va, ra, load⟩ := var_load (A := K.A) cf (by unfold isV; rw [hk]; rfl) u e1
 refine Ev.to (T1 := fun Q E => wpAny M0 K.A (eval e.toE K.env) (fun v s₂ => wpAny M0 K.A (inplaceOp op va v) (fun r s₃ => wpAny M0 K.A (storeName K.env (nm k) r) (fun _ => Q .next) E s₃) E s₂) E w.s) ?_ fun Q E h => wpAny_AugAssign_Name (load _ E h)
 refine ra.osI (fun va => EvP K.b (some K.L) (XR K) w fun Q E => wpAny M0 K.A (eval e.toE K.env) (fun v s₂ => wpAny M0 K.A (inplaceOp op va v) (fun r s₃ => wpAny M0 K.A (storeName K.env (nm k) r) (fun _ => Q .next) E s₃) E s₂) E w.s) fun x t => ?_
 refine Ev.bind (I e K lo w hn h1 cf) (fun Q E h => h) fun w1 u2 vb l1 rb => ?_
 refine rb.osI (fun vb => EvP K.b (some K.L) (XR K) w1 fun Q E => wpAny M0 K.A (inplaceOp op _ vb) (fun r s₃ => wpAny M0 K.A (storeName K.env (nm k) r) (fun _ => Q .next) E s₃) E w1.s) fun y t' => ?_
 have fin : ∀ z : Int, Ev K.b (some K.L) (XR K) w1 (fun Q E => wpAny M0 K.A (storeName K.env (nm k) (.int z w1.s.toks)) (fun _ => Q .next) E { w1.s with toks := w1.s.toks + 1 }) (some (.nx, setL k (.int z) lo, w1.H)) := fun z => by
  have l2 := Le.next (w := w1) (b := K.b) (L := none) (Post.refl w1.S) (Nat.le_succ w1.s.toks)
  exact Ev.later l2.widen (store_loc (cf.up (l1.trans l2)) hk VR.int)
 cases op
 case Add => exact Ev.to (fin _) fun Q E h => wpAny_iadd_int h
 case Sub => exact Ev.to (fin _) fun Q E h => PyProof.Rows.isub_int h
 all_goals exact Ev.none
theorem setX (c : Conf K lo w) {f : List AV → Option (List AV)} (r : VR w u v) (T : Value → (Flow → Shared → Prop) → (Value → Shared → Prop) → Prop) (k : ∀ a xs vs n ys, LstAt w.s.heap a vs n → VRs w xs vs → smallL xs = true → f xs = some ys → ∃ ws, VRs w ys ws ∧ ∀ Q E,
  (∀ h' m, (∀ c o, c ≠ a → w.s.heap.get? c = some o → h'.get? c = some o) → LstAt h' a ws m → Q .next { w.s with heap := h' }) → T (.ref a) Q E) : Ev K.b (some K.L) (XR K) w (T v) (ob2 (setM K.b w.H u f) fun _ H => some (.nx, lo, H)) := by
 have h : Op (fun p => EvP K.b (some K.L) (XR K) w (T v) (RF.nx, lo, p.2)) (setM K.b w.H u f) := r.osL (fun v (p : AV × St) => EvP K.b (some K.L) (XR K) w (T v) (RF.nx, lo, p.2)) fun i a xs vs n ha e rs => Op.gd fun h => Op.ob1 fun ys q => Op.some fun Q E kont => by
  obtain ⟨h1, h2⟩ := and_split h
  obtain ⟨ws, r2, p⟩ := k a xs vs n ys e rs h2 q
  refine p Q E fun h' m ho he => ?_
  have po : Post w.U K.b w.ρ none w.s.heap w.ρ (Mine.setN (.lst ys) w.H i) h' := Post.setLst w.S ha (Nat.le_of_ble_eq_true h1) ho he r2
  have l := Le.next po (Nat.le_refl w.s.toks)
  exact kont (w.next po (Nat.le_refl _)) .next l.widen ⟨rfl, c.F.up c.O l, trivial⟩
 exact fun z ez => by
  obtain ⟨p, e1, ez⟩ := ob2_inv ez
  exact sI1 ez ▸ h p e1
theorem x_seti (I : SndE n ev) (hn : n ≤ K.n) {o i e : X} {sp p : Pos} (h1 : okX K o) (h2 : okX K i) (h3 : okX K e) (hs : swapsWith e.toE (some (.Subscript o.toE i.toE sp)) p.line K.env = pure false) (cf : Conf K lo w) :
  Ex K w (exec (S.seti o i sp e p).toS K.env) (ob2 (ev e lo K.ce K.b w.H) fun v H => ob2 (ev o lo K.ce K.b H) fun u H => ob2 (ev i lo K.ce K.b H) fun w H => asI w fun k => ob2 (setM K.b H u fun xs => gd (leI 0 k && ltI k xs.length) <| some (setN v xs k.toNat)) fun _ H => some (.nx, lo, H)) :=
 Ev.bind (I e K lo w hn h3 cf) (fun Q E h => wpAny_Assign_Subscript h hs) fun w1 v va l1 ra => Ev.bd (I o K lo w1 hn h1 (cf.up l1)) fun w2 u vb l2 rb => Ev.bd (I i K lo w2 hn h2 (cf.up (l1.trans l2))) fun w3 z vc l3 rc =>
  rc.osI (fun vc => EvP K.b (some K.L) (XR K) w3 fun Q E => wpAny M0 K.A (setItem vb vc va) (fun _ => Q .next) E w3.s) fun k t => setX (cf.up (l1.trans (l2.trans l3))) (rb.up l3) (fun vb Q E => wpAny M0 K.A (setItem vb (.int k t) va) (fun _ => Q .next) E w3.s) fun a xs vs m ys e4 r4 hz q => by
   have l := smallL_lt hz
   have hlen := r4.length
   obtain ⟨hc, q⟩ : (leI 0 k && ltI k xs.length) = true ∧ some (setN v xs k.toNat) = some ys := by
    cases hc : (leI 0 k && ltI k xs.length) with
    | true => rw [hc] at q; exact ⟨rfl, q⟩
    | false => rw [hc] at q; cases q
   obtain ⟨z2, z3⟩ := and_split hc
   rw [leI_iff] at z2
   rw [ltI_iff] at z3
   obtain ⟨j, rfl⟩ := Int.eq_ofNat_of_zero_le z2
   refine ⟨vs.set j va, sI1 q ▸ VRs.setN (ra.up (l2.trans l3)) r4 j, fun Q E k => setItem_exact e4 (Int.natCast_nonneg j) (by (first | lia | omega)) (by rw [List.size_toArray]; (first | lia | omega)) ?_⟩
   exact upd_list (g := (·.setIfInBounds j va)) e4 (by simp) k
theorem x_deli (I : SndE n ev) (hn : n ≤ K.n) {o i : X} {sp p : Pos} (h1 : okX K o) (h2 : okX K i) (cf : Conf K lo w) :
  Ex K w (exec (S.deli o i sp p).toS K.env) (ob2 (ev o lo K.ce K.b w.H) fun u H => ob2 (ev i lo K.ce K.b H) fun w H => asI w fun k => ob2 (setM K.b H u fun xs => gd (smallI k) <| ob1 (ixOf k xs.length) fun n => some (xs.eraseIdx n)) fun _ H => some (.nx, lo, H)) :=
 Ev.bind (I o K lo w hn h1 cf) (G := fun ov s Q E => wpAny M0 K.A (eval i.toE K.env) (fun iv s => wpAny M0 K.A (delItem ov iv) (fun _ => Q .next) E s) E s) (fun Q E h => wpAny_Delete (wpAny_deleteEach_cons (wpAny_delete_Subscript (wpAny_mono h (fun _ _ h => wpAny_mono h (fun _ _ h => wpAny_mono h (fun _ _ h => wpAny_deleteEach_nil h) fun _ _ e => e) fun _ _ e => e) fun _ _ e => e))))
  fun w1 u vb l1 rb => Ev.bd (I i K lo w1 hn h2 (cf.up l1)) fun w2 z vc l2 rc => rc.osI (fun vc => EvP K.b (some K.L) (XR K) w2 fun Q E => wpAny M0 K.A (delItem vb vc) (fun _ => Q .next) E w2.s) fun k t =>
   setX (cf.up (l1.trans l2)) (rb.up l2) (fun vb Q E => wpAny M0 K.A (delItem vb (.int k t)) (fun _ => Q .next) E w2.s) fun a xs vs m ys e4 r4 hz q => by
    have l := smallL_lt hz
    have hlen := r4.length
    obtain ⟨z1, q⟩ : smallI k = true ∧ (ob1 (ixOf k xs.length) fun n => some (xs.eraseIdx n)) = some ys := by
     cases hc : smallI k with
     | true => rw [hc] at q; exact ⟨rfl, q⟩
     | false => rw [hc] at q; cases q
    have l2 := smallI_lt z1
    obtain ⟨m', q2, q⟩ := ob1_inv q
    exact ⟨vs.eraseIdx m', sI1 q ▸ VRs.erase r4 m', fun Q E kont => delItem_at e4 (by simp [Builtin.List.listFitsIndex]; (first | lia | omega)) (by rw [List.size_toArray, ← hlen]; exact ixOf_seq q2) (fun h4 hs he => kont h4 _ (fun c o hc e => (hs.2 c hc).trans e) he) (by rw [List.size_toArray, sizeLine_is]; (first | lia | omega))⟩
end
section
variable {A : Around} {b n : Nat} {w w' : Ws} {u x : AV} {v : Value} {xs : List AV} {vs : List Value} {K : Kn} {lo lo' : Lo}
variable {ev : X → Lo → Ce → Nat → St → Option (AV × St)} {tv : X → Lo → Ce → Nat → St → Option (Bool × St)} {ex : List S → Lo → Ce → Nat → St → Option (RF × Lo × St)}
theorem fm_lt {α β : Type} {c : α → Bool} {f : α → β} {l : List α} (h : ∃ x ∈ l, c x = false) : (l.filterMap fun x => if c x = true then some (f x) else none).length < l.length := by
 induction l with
 | nil => obtain ⟨x, m, _⟩ := h; cases m
 | cons y r ih =>
  rw [List.filterMap_cons]
  cases hy : c y with
  | true =>
   rw [if_pos rfl]
   obtain ⟨x, m, h⟩ := h
   cases m with
   | head => rw [h] at hy; cases hy
   | tail _ m => exact Nat.succ_lt_succ (ih ⟨x, m, h⟩)
  | false =>
   rw [if_neg Bool.false_ne_true]
   exact Nat.lt_succ_of_le (List.length_filterMap_le _ _)
theorem fm_all {α β : Type} {c : α → Bool} {f : α → β} {l : List α} (h : ∀ x ∈ l, c x = true) : (l.filterMap fun x => if c x = true then some (f x) else none) = l.map f := by
 induction l with
 | nil => rfl
 | cons y r ih =>
  rw [List.filterMap_cons, h y (.head _), if_pos rfl, List.map_cons]
  exact congrArg (f y :: ·) (ih fun x m => h x (.tail _ m))
noncomputable def tupE (ks : List (Nat × Pos)) (tp : Pos) : Expr := .Tuple (ks.map fun x => .Name (nm x.1) x.2) 0 tp
theorem swapped_none {ks : List (Nat × Pos)} {vs : List Expr} {k' : Nat} {tp vp : Pos} {env : Env} (h : ∃ x ∈ ks, env.kindOf (nm x.1) ≠ some .local) : swappedStores [tupE ks tp] (.Tuple vs k' vp) env = pure none := by
 unfold swappedStores tupE
 simp only [List.filterMap_map, Function.comp_def, List.length_map]
 split
 ·rfl
 split
 ·rfl
 rw [if_pos]
 rw [Bool.or_eq_true]; left; rw [bne_iff_ne]
 refine Nat.ne_of_lt (fm_lt (c := fun (x : Nat × Pos) => (env.kindOf (nm x.1) == some NameKind.local) && x.2.line == _) ?_)
 obtain ⟨x, m, hx⟩ := h
 exact ⟨x, m, by rw [beq_eq_false_iff_ne.mpr hx]; rfl⟩
theorem dups_nodup (l : List Str) (h : l.Nodup) : l.eraseDups = l := by
 induction l with
 | nil => rfl
 | cons a r ih =>
  obtain ⟨n1, n2⟩ := List.nodup_cons.mp h
  rw [List.eraseDups_cons, List.filter_eq_self.mpr (fun b hb => by
   rw [Bool.not_eq_true', beq_eq_false_iff_ne]
   exact fun q => n1 (q ▸ hb)), ih n2]
theorem swapped_some {ks : List (Nat × Pos)} {vs : List Expr} {k' : Nat} {tp vp : Pos} {env : Env} (h1 : ks.length = 2 ∨ ks.length = 3) (h2 : vs.length = ks.length) (h3 : env.scope.kind = .function) (h4 : ∀ e ∈ vs, ∀ a p, e ≠ .Starred a p) (h5 : ∀ x ∈ ks, env.kindOf (nm x.1) = some .local)
  (h6 : ∀ q, ks.head? = some q → ∀ x ∈ ks, (x.2.line == q.2.line) = true) (h7 : (ks.map fun x => nm x.1).Nodup) (h8 : vs.all (foldedForSure 8) = false) (h9 : vs.all (constantsAlone 8) = false) :
  swappedStores [tupE ks tp] (.Tuple vs k' vp) env = pure (some (ks.map fun x => nm x.1)) := by
 have hline : ∀ x ∈ ks, (x.2.line == (Option.map (fun x : Expr => x.pos.line) (ks.map fun x => Expr.Name (nm x.1) x.2).head?).getD 0) = true := fun x m => by
  cases ks with
  | nil => cases m
  | cons y r => exact h6 y rfl x m
 unfold swappedStores tupE
 simp only [List.filterMap_map, Function.comp_def, List.length_map]
 have hfm : (ks.filterMap fun x => if (env.kindOf (nm x.1) == some NameKind.local && x.2.line == (Option.map (fun x : Expr => x.pos.line) (ks.map fun x => Expr.Name (nm x.1) x.2).head?).getD 0) = true then some (nm x.1) else none) = ks.map fun x => nm x.1 :=
  fm_all (c := fun (x : Nat × Pos) => (env.kindOf (nm x.1) == some NameKind.local) && x.2.line == _) fun x m => by rw [h5 x m, hline x m]; rfl
 rw [hfm]
 have hbk : env.blockKind = .function := by unfold Env.blockKind; rw [h3]; rfl
 rw [if_neg, if_neg, if_neg, if_neg, if_neg]
 ·rw [h9]; exact Bool.false_ne_true
 ·rw [h8]; exact Bool.false_ne_true
 ·rw [dups_nodup _ h7, List.length_map]; simp
 ·rw [Bool.not_eq_true, List.any_eq_false]
  intro x m
  split
  ·exact absurd rfl (h4 _ m _ _)
  ·exact Bool.false_ne_true
 ·rw [h2, hbk]
  rcases h1 with q | q <;> rw [q] <;> decide
theorem swaps_name {k : Nat} {p : Pos} {e : X} {line : Nat} (hok : okX K e) (hk : okS K k) (hm : asgOk K.kd (.name k p) e = true) : swapsWith e.toE (some (.Name (nm k) p)) line K.env = pure false := by
 cases e <;> first | rfl | (cases hok; done) | skip
 have hm : (!isLoc K.kd k) = true := hm
 have hce : isCe K.kd k = true := (Bool.or_eq_true_iff.mp hk).elim (fun q => by rw [q] at hm; cases hm) id
 unfold X.toE swapsWith
 simp only [K.ce1 k hce]
 rw [show (some NameKind.cell == some NameKind.local) = false by decide, Bool.and_false, Bool.false_and, Bool.false_and]
theorem toEs_plain {P : List Fn} {kd : List (Nat × K3)} {tq : Nat} {xs : List X} (h : oks P kd tq xs = true) : ∀ e ∈ toEs xs, ∀ a p, e ≠ .Starred a p := by
 induction xs with
 | nil => exact fun e m => nomatch m
 | cons x r ih =>
  obtain ⟨h1, h2⟩ := and_split h
  intro e m a p q
  cases m with
  | head => cases x <;> first | (cases q; done) | cases h1
  | tail _ m => exact ih h2 e m a p q
theorem x_asg (I : SndE n ev) (hn : n ≤ K.n) {t : Tg} {e : X} {p : Pos} (ht : t.ok K.kd = true) (he : okX K e) (hm : asgOk K.kd t e = true) (cf : Conf K lo w) : Ex K w (exec (S.asg t e p).toS K.env) (ob2 (ev e lo K.ce K.b w.H) fun v H => nxM (asgM t v lo K.ce K.b H)) := by
 cases t with
 | name k kp => exact Ev.bind (I e K lo w hn he cf) (fun Q E h => wpAny_Assign_Name h (swaps_name he ht hm)) fun w1 u v l1 r1 => nx_store (store_snd (cf.up l1) ht r1)
 | tup ks tp =>
  have hsw : swapsWithSole [tupE ks tp] e.toE p.line K.env = pure false := by
   cases e <;> first | rfl | (cases he; done) | cases hm
  have hst : swappedStores [tupE ks tp] e.toE K.env = pure none := by
   cases e <;> first | rfl | (cases he; done) | skip
   obtain ⟨x, mx, hx⟩ := List.any_eq_true.mp hm
   exact swapped_none ⟨x, mx, by rw [K.ce1 _ hx]; decide⟩
  exact Ev.bind (I e K lo w hn he cf) (fun Q E h => PyProof.Rows.Assign_Tuple h hsw hst) fun w1 u v l1 r1 => nx_store (assign_snd (t := .tup ks tp) (cf.up l1) K.R ht r1)
theorem storesM_loc {ks : List (Nat × Pos)} {b : Nat} : ∀ {xs : List AV} {lo : Lo} {H : St}, (ks.all fun x => isLoc K.kd x.1) = true → storesM ks xs lo [] b H = storesM ks xs lo K.ce b H := by
 induction ks with
 | nil => exact fun _ => rfl
 | cons k ks ih =>
  intro xs lo H hk
  obtain ⟨h1, h2⟩ := and_split hk
  cases xs with
  | nil => rfl
  | cons x xs =>
   show ob2 (storeM k.1 x lo [] b H) (fun lo H => storesM ks xs lo [] b H) = ob2 (storeM k.1 x lo K.ce b H) fun lo H => storesM ks xs lo K.ce b H
   unfold storeM
   rw [notCe h1]
   exact ih h2
theorem x_asw (I : SndE n ev) (hn : n ≤ K.n) {ks : List (Nat × Pos)} {xs : List X} {tp vp p : Pos} (hks : (ks.all fun x => isLoc K.kd x.1) = true) (hxs : okXs K xs) (hsw : swapOk ks xs = true) (cf : Conf K lo w) :
  Ex K w (exec (S.asw ks tp xs vp p).toS K.env) (ob2 (evs (fun x H => ev x lo K.ce K.b H) xs w.H) fun vs H => nxM (storesM ks.reverse vs.reverse lo [] K.b H)) := by
 obtain ⟨s1, hsw⟩ := and_split hsw
 obtain ⟨s2, hsw⟩ := and_split hsw
 obtain ⟨s3, hsw⟩ := and_split hsw
 obtain ⟨s4, hsw⟩ := and_split hsw
 obtain ⟨s5, s6⟩ := and_split hsw
 have hst : swappedStores [tupE ks tp] (.Tuple (toEs xs) 0 vp) K.env = pure (some (ks.map fun x => nm x.1)) :=
  swapped_some ((Bool.or_eq_true_iff.mp s1).imp Nat.eq_of_beq_eq_true Nat.eq_of_beq_eq_true) (by rw [toEs_length]; exact Nat.eq_of_beq_eq_true s2) K.kind (toEs_plain hxs) (fun x m => K.loc _ (List.all_eq_true.mp hks x m)) (fun q hq x m => by
   cases ks with
   | nil => cases hq
   | cons y r =>
    obtain rfl := sI1 hq
    exact List.all_eq_true.mp s3 x m) (nodupP_names s4) (by simpa using s5) (by simpa using s6)
 refine Ev.bind (args_snd I hn hxs cf) (G := fun vals s Q E => vals.length ≤ sizeLine ∧ wpAny M0 K.A (unpackItems (.ref s.heap.objs.size) (ks.map fun x => nm x.1).length none) (fun items s₂ =>
   wpAny M0 K.A (assignInOrder ((ks.map fun x => nm x.1).reverse.map fun n => bindName K.env n) items.reverse) (fun _ => Q .next) E s₂) E { s with heap := s.heap.push { cls := .type "tuple", data := .seq vals.toArray } })
  (fun Q E h => PyProof.Rows.Assign_Tuple_swapped (wpAny_Tuple_spliced (by rw [back_args K.env vp xs hxs]; exact h)) rfl hst) fun w1 vs vals l1 rs z ez Q E kont => ?_
 obtain ⟨p, e1, ez'⟩ := ob2_inv ez
 have hl := storesM_len rs.reverse p e1
 rw [List.length_reverse, List.length_reverse] at hl
 have po := Post.push (b := K.b) (L := none) w1.S { cls := .type "tuple", data := .seq vals.toArray }
 rw [List.length_map, ← List.map_reverse, List.map_map, hl, ← List.size_toArray]
 refine ⟨by have := (Bool.or_eq_true_iff.mp s1).imp Nat.eq_of_beq_eq_true Nat.eq_of_beq_eq_true; rw [List.size_toArray, ← hl, sizeLine_is]; (first | lia | omega), wpAny_unpackItems_tuple K.R.hd ⟨_, Heap.get?_push_size _ rfl, rfl, _, rfl⟩ fun h2' hx => ?_⟩
 have kp : ∀ a o, w1.s.heap.get? a = some o → h2'.get? a = some o := fun a o e => hx a o (Nat.ne_of_lt (Heap.lt_size (Heap.get?_push_of_some _ e))) (Heap.get?_push_of_some _ e)
 have l2 := Le.next (w := w1) (b := K.b) (L := none) (Post.keep w1.S kp) (Nat.le_refl w1.s.toks)
 have hs := stores_snd (A := K.A) (f := fun k v => bindName K.env (nm k.1) v) (fun k v Q E s h => wpAny_bindName h) (ks := ks.reverse) (xs := vs.reverse) (by rw [List.all_reverse]; exact stok_of hks) (cf.up (l1.trans l2)) (VRs.up rs l2).reverse
 rw [← storesM_loc (by rw [List.all_reverse]; exact hks)] at hs
 exact nx_store hs z ez Q E fun w2 v l3 => kont w2 v (l2.widen.trans l3)
theorem x_while {Lv : Lvl} (T : SndT n Lv.tv) (J : SndX n Lv.ex) (hn : n ≤ K.n) {c : X} {body : List S} {p : Pos} (h1 : okX K c) (h2 : okSS K body) (cf : Conf K lo w) : Ex K w (exec (S.whil c body p).toS K.env) (whilM Lv c body K.ce K.b MAXT lo w.H) := by
 intro r ez Q E kont
 refine wpAny_While (codeAny_whileLoop (fun m s' => ∃ lo2 w2, s' = w2.s ∧ whilM Lv c body K.ce K.b m lo2 w2.H = some r ∧ Le K.b (some K.L) w w2 ∧ Conf K lo2 w2) (fun m s' hI => ?_) MAXT ⟨lo, w, rfl, ez, Le.refl, cf⟩)
 obtain ⟨lo2, w2, rfl, ez, l2, c2⟩ := hI
 cases m with
 | zero => cases ez
 | succ m =>
  obtain ⟨⟨t, H3⟩, e3, ez⟩ := ob2_inv ez
  refine T c K lo2 w2 hn h1 c2 (t, H3) e3 _ _ fun w3 t' l3 r3 => ?_
  obtain ⟨eH, et⟩ := r3
  obtain rfl : t' = t := et
  have c3 := c2.up l3
  cases t' with
  | false =>
   rw [if_neg Bool.false_ne_true]
   obtain rfl := sI1 ez
   exact wpAny_execs_nil (kont w3 .next (l2.trans l3.widen) ⟨eH, c3.F, trivial⟩)
  | true =>
   rw [if_pos rfl]
   obtain ⟨⟨x4, lo4, H4⟩, e4, ez⟩ := obX_inv ez
   refine J body K lo2 w3 hn h2 c3 _ (eH ▸ e4) _ _ fun w4 fl l4 F4 => ?_
   obtain ⟨eH4, F4, q4⟩ := F4
   rcases ez with ⟨rfl, ez⟩ | ⟨v, rfl, ez⟩
   ·cases fl <;> try exact q4.elim
    exact ⟨m, Nat.lt_succ_self m, lo4, w4, rfl, eH4 ▸ ez, l2.trans (l3.widen.trans l4), c3.upL l4 F4⟩
   ·cases fl <;> try exact q4.elim
    obtain rfl := sI1 ez
    exact kont w4 (.ret _) (l2.trans (l3.widen.trans l4)) ⟨eH4, F4, q4⟩
theorem ann_none (ps : List (Nat × Pos)) (env : Env) : annTrees (argsOf ps) none env = [] := by
 show annotationsOf (ps.map argOf ++ [] ++ [] ++ [] ++ []) env ++ [] = []
 rw [List.append_nil, List.append_nil, List.append_nil, List.append_nil, List.append_nil]
 induction ps with
 | nil => rfl
 | cons q r ih => exact ih
theorem x_defn (ok : Ok0) {k : Nat} {ps : List (Nat × Pos)} {body : List S} {kd' : List (Nat × K3)} {mo : List (Str × Const)} {p : Pos} (htq : K.tq = k + 2) (hk : okS K k) (hin : okIn K.kd kd' = true) (hps : (ps.all fun x => isLoc kd' x.1) = true) (hpn : nodupP ps = true) (hb : okSs C0.P kd' 0 body = true) (c : Conf K lo w) :
  Ex K w (exec (S.defn k ps body kd' mo p).toS K.env) (nxM (storeM k (.cloS ps body kd' mo (freeC kd' K.ce)) lo K.ce K.b w.H)) := by
 intro z ez Q E kont
 have hI := inn_of hin
 obtain ⟨cl, hcl, c1⟩ := clos_snd (mo := mo) c hI
 obtain ⟨x, hx, hcode, hname⟩ := K.tab (by rw [htq]; exact nofun)
 rw [htq] at hname
 obtain ⟨t1, t2, tps, t⟩ := w.S.tabs x hx
 have hg : w.s.heap.Ns mainGlobals C0.mg := ns_at ok.g fun o e => w.S.base _ _ e
 have fin : ∀ {h' : Heap} {tk : Tok} {fd : FuncData}, w.s.toks ≤ tk → (fd.closure = cl) → Post w.U K.b w.ρ none w.s.heap w.ρ w.H h' → h'.CodeRec fd.code fd.qualname → (∀ c, fd.code = .ref c → ¬ C0.tabA c) → fd.params = argsOf ps → fd.body = .stmts (toSs body) → fd.scope = scopeOf kd' mo → fd.globals = mainGlobals → fd.builtins = builtinsNs → fd.defaults = .none →
   wpAny M0 K.A (storeName K.env (nm k) (.ref h'.objs.size)) (fun _ s'' => Q .next s'') E { w.s with heap := h'.push { cls := .type "function", data := .func fd }, toks := tk } := fun le e0 po hr hn e1 e2 e3 e4 e5 e6 => by
  obtain ⟨w', l, eH, es, r⟩ := made_fun (okb := fun kd => okSs C0.P kd 0 body) hI (e0 ▸ c1) hps hpn hb po le hr hn e1 e2 e3 e4 e5 e6
  exact es ▸ nx_store (store_snd (x := .cloS ps body kd' mo (freeC kd' K.ce)) (c.up l) hk r) z (eH ▸ ez) Q E fun w2 v l2 => kont w2 v (l.widen.trans l2)
 have hqual : qualnameIn K.env (nm k) (nm k) = x.2.2 := by
  unfold qualnameIn
  have hkd : K.env.kindOf (nm k) = some .local ∨ K.env.kindOf (nm k) = some .cell := (Bool.or_eq_true_iff.mp hk).imp (K.loc k) (K.ce1 k)
  rw [if_neg (by rcases hkd with q | q <;> rw [q] <;> decide), hname]
  rfl
 refine nestDef_K rfl rfl (ann_none ps K.env) ?_
 rw [hqual]
 refine wpAny_with_toks (n := w.s.toks) (Nat.le_refl _) ?_
 cases hf : codeAmong p tps.toList with
 | none =>
  exact makeFunction_K hcl K.globals hg hcode (t2.keeps w.S.base) t.at_ t.trip hf (gP ok w hx) (ok.bat' w hx) fun c' ctv doc h' tk he hge hlt hr hP le =>
   fin le rfl (Post.tab ok hx t he hP hr (w.notTab hge)) hr (fun c1 e1 => Value.ref.inj e1 ▸ w.notTab hge) rfl rfl rfl rfl rfl rfl
 | some cv =>
  obtain ⟨hr, hn⟩ := t.rec_ p cv hf
  refine makeFunction_hit hcl K.globals hg hcode (t2.keeps w.S.base) t.at_ t.trip hf (ok.bat' w hx) fun ctv doc h' tk hk hsz le => ?_
  obtain ⟨c0, o, vs, t', q, e', hd, hv⟩ := hr
  exact fin le rfl (Post.keep w.S hk) ⟨c0, o, vs, t', q, hk _ _ e', hd, hv⟩ hn rfl rfl rfl rfl rfl rfl
end
section
variable {A : Around} {s : Shared} {elt : Expr} {gens : List Comprehension} {scope : Scope} {pos : Pos} {d : Nat} {it acc : Value} {env : Env} {g : Comprehension}
noncomputable def testF (env : Env) : Expr → Bool → Sem (ForInStep Bool) := fun c r => if r = true then do let ok ← PySem.isTrue c env (eval c env); pure (ForInStep.yield ok) else pure (ForInStep.yield r)
noncomputable def CRest (A : Around) (elt : Expr) (gens : List Comprehension) (scope : Scope) (pos : Pos) (acc : Value) (env : Env) (E : Value → Shared → Prop) (N : Shared → Prop) (d : Nat) (s : Shared) : Prop := match gens[d]? with
 | some g' => wpAny M0 A (eval g'.iter env) (fun x s₅ => wpAny M0 A (foldedSetIterable g'.iter env x) (fun x s₆ => wpAny M0 A (pyIter x) (fun i s₇ => codeAny M0 A (.compStart (.ListComp elt gens scope pos) d i acc env) (fun r s₈ => (∃ f, r = .ok f) ∧ N s₈) s₇) E s₆) E s₅) E s
 | none => wpAny M0 A (eval elt env) (fun x s₅ => wpAny M0 A (call (.builtin "list.append") [acc, x]) (fun _ s₆ => N s₆) E s₅) E s
noncomputable def CTurn (A : Around) (g : Comprehension) (it : Value) (env : Env) (E : Value → Shared → Prop) (N F C : Shared → Prop) (s : Shared) : Prop := wpAny M0 A (pyNext it) (fun r s₁ => match r with
 | none => F s₁
 | some v => wpAny M0 A (letOwnedTupleGo g.target it v) (fun _ s₂ => wpAny M0 A (assign g.target env v) (fun _ s₃ => wpAny M0 A (forIn g.ifs true (testF env)) (fun ok s₄ => if ok = true then C s₄ else N s₄) E s₃) E s₂) E s₁) E s
theorem comp_loop {R : Result → Shared → Prop} (hg : gens[d]? = some g) (ha : g.is_async = 0) (hga : ∀ g', gens[d + 1]? = some g' → g'.is_async = 0) (I : Nat → Shared → Prop)
  (turn : ∀ E n s, I n s → CTurn A g it env E (fun s => ∃ m, m < n ∧ I m s) (R (.ok .next)) (CRest A elt gens scope pos acc env E (fun s => ∃ m, m < n ∧ I m s) (d + 1)) s)
  (n : Nat) (h : I n s) : codeAny M0 A (.compLoop (.ListComp elt gens scope pos) d it acc env) R s := by
 refine codeAny_loop rfl I (fun n s hI => ?_) n h
 show wpAny _ A ((compTurn (.ListComp elt gens scope pos) d it acc env).onRaise (fun x => do noteFrame x env; theTreesLotGoes x)) _ _ s
 refine wpAny_noted ?_
 have n0 : ¬ (((0 : Int) != 0) = true) := by decide
 unfold compTurn
 dsimp only
 rw [hg]
 dsimp only
 rw [ha, if_neg n0]
 refine wpAny_bind (wpAny_standAt (wpAny_bind (wpAny_mono (turn _ n s hI) (fun r s₁ h₁ => ?_) fun _ _ h' => h')))
 cases r with
 | none => exact wpAny_pure h₁
 | some v =>
  refine wpAny_bind (wpAny_mono h₁ (fun _ s₂ h₂ => wpAny_bind (wpAny_mono h₂ (fun _ s₃ h₃ => wpAny_bind (wpAny_mono h₃ (fun ok s₄ h₄ => ?_) fun _ _ h' => h')) fun _ _ h' => h')) fun _ _ h' => h')
  cases ok with
  | false =>
   rw [if_neg Bool.false_ne_true] at h₄ ⊢
   exact wpAny_pure ⟨rfl, h₄⟩
  | true =>
   rw [if_pos rfl] at h₄ ⊢
   unfold CRest at h₄
   cases hg' : gens[d + 1]? with
   | none =>
    rw [hg'] at h₄
    exact wpAny_bind (wpAny_bind (wpAny_mono h₄ (fun x s₅ h₅ => wpAny_bind (wpAny_mono h₅ (fun _ s₆ h₆ => wpAny_pure (wpAny_pure ⟨rfl, h₆⟩)) fun _ _ h' => h')) fun _ _ h' => h'))
   | some g' =>
    rw [hg'] at h₄
    refine wpAny_bind (wpAny_mono h₄ (fun x s₅ h₅ => wpAny_bind (wpAny_standAt ?_)) fun _ _ h' => h')
    rw [hga g' hg', if_neg n0]
    refine wpAny_bind (wpAny_mono h₅ (fun x s₆ h₆ => ?_) fun _ _ h' => h')
    rw [if_neg n0]
    refine wpAny_bind (wpAny_holding (wpAny_mono h₆ (fun i s₇ h₇ => wpAny_bind (wpAny_runOwn (codeAny_mono h₇ fun r s₈ h₈ => ?_))) fun _ _ h' => h'))
    obtain ⟨⟨f, rfl⟩, h₈⟩ := h₈
    exact wpAny_pure ⟨rfl, h₈⟩
theorem comp_start {R : Result → Shared → Prop} (hg : gens[d]? = some g) (ha : g.is_async = 0) (h0 : codeAny M0 A (.compLoop (.ListComp elt gens scope pos) d it acc env) R s)
  (h : ∀ Q E : Value → Shared → Prop, Q it s → wpAny M0 A (pyIter it) Q E s) : codeAny M0 A (.compStart (.ListComp elt gens scope pos) d it acc env) R s := by
 refine codeAny_of_tree ?_
 show wpAny _ _ ((compStart (.ListComp elt gens scope pos) d it acc env).onRaise (fun x => do noteFrame x env; standAt theWindowsPlace)) _ _ s
 refine wpAny_notedAt ?_
 unfold compStart
 rw [show clausesOf (.ListComp elt gens scope pos) = gens from rfl, hg]
 have n0 : ¬ (((some g).elim false fun x : Comprehension => x.is_async != 0) = true) := by
  show ¬ ((g.is_async != 0) = true)
  rw [ha]; decide
 rw [if_neg n0]
 refine wpAny_bind (wpAny_askSetting (wpAny_ite ?_))
 split
 ·exact wpAny_pure (And.intro rfl h0)
 ·exact wpAny_bind (wpAny_rule (wpAny_bind (wpAny_standAt (wpAny_bind (h _ _ (wpAny_pure (And.intro rfl h0)))))))
end
section
variable {A : Around} {b n k : Nat} {w w' w0 w2 w3 : Ws} {O : List Addr} {it i : Addr} {src : Src} {K : Kn} {lo lo' : Lo} {h1 h' : Heap} {kd' : List (Nat × K3)}
theorem iter_again {s : Shared} {U : Addr → Prop} {ρ : List Addr} (r : IRel U ρ s.heap k src it O) (Q E : Value → Shared → Prop) (q : Q (.ref it) s) : wpAny M0 A (pyIter (.ref it)) Q E s := by
 cases src with
 | lst i => obtain ⟨_, a, _, e⟩ := r; exact wpAny_pyIter_listiter e q
 | tup xs => obtain ⟨_, a, vs, n, _, _, _, e⟩ := r; exact wpAny_pyIter_tupleiter e q
 | rng a c d => exact wpAny_pyIter_rangeiter r.2 q
 | rv i m => obtain ⟨_, _, a, _, e⟩ := r; exact wpAny_pyIter_revIter e q
 | en s => obtain ⟨_, _, _, _, e, _⟩ := r; exact wpAny_pyIter_enum e q
 | zp s t => obtain ⟨_, _, _, _, _, _, _, _, _, e, _⟩ := r; exact wpAny_pyIter_zip e q
noncomputable def relK (env : Env) (k : Nat) (w : K3) : NameKind := if (w.kind == NameKind.free && env.scope.kind == .function && env.kindOf (nm k) == some .cell) = true then .cell else w.kind
theorem lookup_relabel {env : Env} (k : Nat) (kd : List (Nat × K3)) : ((kd.map fun x => (nm x.1, x.2.kind)).map fun (n, k) => if (k == NameKind.free && env.scope.kind == .function && env.kindOf n == some .cell) then (n, NameKind.cell) else (n, k)).lookup (nm k) = (lkp k kd).map (relK env k) := by
 have e : ((kd.map fun x => (nm x.1, x.2.kind)).map fun (n, k) => if (k == NameKind.free && env.scope.kind == .function && env.kindOf n == some .cell) then (n, NameKind.cell) else (n, k)) = kd.map fun x => (nm x.1, relK env x.1 x.2) := by
  rw [List.map_map]
  refine List.map_congr_left fun x _ => ?_
  show (if _ then _ else _) = (nm x.1, if _ then _ else _)
  split <;> rfl
 rw [e]
 induction kd with
 | nil => rfl
 | cons x r ih =>
  have ih := ih (by
   rw [List.map_map]
   refine List.map_congr_left fun x _ => ?_
   show (if _ then _ else _) = (nm x.1, if _ then _ else _)
   split <;> rfl)
  obtain ⟨j, u⟩ := x
  rw [List.map_cons, List.lookup_cons]
  unfold lkp
  cases q : Nat.beq j k with
  | true =>
   cases Nat.eq_of_beq_eq_true q
   rw [beq_self_eq_true]; rfl
  | false =>
   rw [beq_eq_false_iff_ne.mpr fun e => by have := nm_inj e; subst this; rw [Nat.beq_refl] at q; cases q]
   exact ih
noncomputable def compE (K : Kn) (kd' : List (Nat × K3)) (cl : List (Str × Addr)) (D : Addr) : Env := { scope := relabel (scopeOf kd' []) K.env, locals := D, globals := K.env.globals, cells := cl, qual := K.env.qual, func := none, code := K.env.code, frame := K.env.frame, builtins := K.env.builtins }
theorem compE_kind {cl : List (Str × Addr)} {D : Addr} {k : Nat} {u : K3} (e : lkp k kd' = some u) : (compE K kd' cl D).kindOf (nm k) = some (relK K.env k u) := (lookup_relabel k kd').trans (by rw [e]; rfl)
noncomputable def compK (K : Kn) (kd' : List (Nat × K3)) (I : Inn K.kd kd') (cl : List (Str × Addr)) (D : Addr) : Kn where
 A := K.A
 kd := kd'
 tq := 0
 ce := freeC kd' K.ce
 env := compE K kd' cl D
 L := D
 b := K.b
 n := K.n
 R := K.R
 kind := rfl
 loc := fun k e => by
  unfold isLoc at e
  split at e
  ·rename_i q; exact compE_kind q
  ·cases e
 cl := fun k e => by
  unfold isCl at e
  split at e
  ·rename_i q; exact nomatch List.all_eq_true.mp I.nc _ (lkp_mem q)
  ·rename_i q
   rw [compE_kind q]
   unfold relK
   split
   ·exact .inl rfl
   ·exact .inr rfl
  ·cases e
 ce1 := fun k e => by
  unfold isCe at e
  split at e
  ·rename_i q; exact nomatch List.all_eq_true.mp I.nc _ (lkp_mem q)
  ·cases e
 glb := fun k e => by
  unfold isG at e
  split at e
  ·rename_i q; exact compE_kind q
  ·cases e
 eL := rfl
 globals := K.globals
 builtins := K.builtins
 ceCl := fun k i e => I.cl k i e
 cov := fun k e => by
  unfold isCl at e
  split at e
  ·rename_i q; exact nomatch List.all_eq_true.mp I.nc _ (lkp_mem q)
  ·rename_i q; exact I.cov k (lkp_mem q)
  ·cases e
 tab := fun q => absurd rfl q
end
noncomputable def gToC : G → Comprehension
 | .mk t it ifs => { target := t.toE, iter := it.toE, ifs := toEs ifs, is_async := 0 }
theorem toGs_get (gs : List G) : ∀ d : Nat, (toGs gs)[d]? = (gs[d]?).map gToC := by
 induction gs with
 | nil => exact fun d => rfl
 | cons g r ih =>
  obtain ⟨t, it, ifs⟩ := g
  intro d
  cases d with
  | zero => rfl
  | succ d => exact ih d
section
variable {A : Around} {b n k d : Nat} {w w' w0 w2 w3 : Ws} {O : List Addr} {it : It} {i aD : Addr} {src : Src} {K : Kn} {lo lo' : Lo} {h1 h' : Heap} {kd' : List (Nat × K3)} {E : Value → Shared → Prop} {N F : Shared → Prop} {t : Tg} {ifs : List X} {gs gens : List G} {sc : Scope} {p : Pos} {elt : X} {acc : Nat} {em : Lo → St → Option St}
variable {ev : X → Lo → Ce → Nat → St → Option (AV × St)} {tv : X → Lo → Ce → Nat → St → Option (Bool × St)}
theorem tests_off {M : Model} {s : Shared} {Q : Bool → Shared → Prop} (env : Env) (xs : List Expr) (q : Q false s) : wpAny M A (forIn xs false (testF env)) Q E s := by
 induction xs with
 | nil => rw [List.forIn_nil]; exact wpAny_pure q
 | cons x r ih => rw [List.forIn_cons]; exact wpAny_bind (wpAny_pure ih)
theorem tests_snd (T : SndT n tv) (hn : n ≤ K.n) {xs : List X} : ∀ {w : Ws}, okXs K xs → Conf K lo w → Eb K.A K.b w (forIn (toEs xs) true (testF K.env)) (tests (fun x lo H => tv x lo K.ce K.b H) lo xs w.H) := by
 induction xs with
 | nil =>
  exact fun _ _ => Op.some fun Q E q => by
   show wpAny _ _ (forIn [] true (testF K.env)) Q E _
   rw [List.forIn_nil]; exact wpAny_pure (q _ true Le.refl ⟨rfl, rfl⟩)
 | cons x r ih =>
  intro w h c
  refine Ev.bB (T x K lo w hn (and_split h).1 c) (G := fun b s Q E => wpAny M0 K.A (forIn (toEs r) b (testF K.env)) Q E s) (fun Q E h => ?_) (fun w1 l1 => ih (and_split h).2 (c.up l1)) fun w1 l1 => Op.some fun Q E q => tests_off K.env _ (q w1 false Le.refl ⟨rfl, rfl⟩)
  show wpAny _ _ (forIn (x.toE :: toEs r) true (testF K.env)) Q E w.s
  rw [List.forIn_cons]
  exact wpAny_bind (wpAny_bind (wpAny_mono h (fun _ _ h => wpAny_pure h) fun _ _ e => e))
noncomputable def clM (ev : X → Lo → Ce → Nat → St → Option (AV × St)) (tv : X → Lo → Ce → Nat → St → Option (Bool × St)) (K : Kn) (em : Lo → St → Option St) : List G → Option Src → Lo × St → Option (Lo × St) := clauses (fun x lo H => ev x lo K.ce K.b H) (fun x lo H => tv x lo K.ce K.b H) K.ce K.b em
noncomputable def ROk (K : Kn) (elt : X) (gens : List G) (sc : Scope) (p : Pos) (acc d : Nat) (f : Lo × St → Option (Lo × St)) : Prop := ∀ (lo : Lo) (w : Ws) (aD : Addr), w.ρ[acc]? = some aD → Conf K lo w →
 Op (fun r => ∀ (E : Value → Shared → Prop) (N : Shared → Prop), (∀ w', Le K.b (some K.L) w w' → w'.H = r.2 → Conf K r.1 w' → N w'.s) → CRest K.A elt.toE (toGs gens) sc p (.ref aD) K.env E N d w.s) (f (lo, w.H))
noncomputable def clF (tv : X → Lo → Ce → Nat → St → Option (Bool × St)) (K : Kn) (t : Tg) (ifs : List X) (f : Lo × St → Option (Lo × St)) (v : AV) (a : Lo × St) : Option ((Lo × St) × Bool) := ob2 (asgM t v a.1 K.ce K.b a.2) fun lo H => obB (tests (fun x lo H => tv x lo K.ce K.b H) lo ifs H) (fun H => ob1 (f (lo, H)) fun a => some (a, true)) fun H => some ((lo, H), true)
structure CIn (K : Kn) (w0 w2 : Ws) (O : List Addr) (lo : Lo) (acc : Nat) (aD : Addr) (k : Nat) (src : Src) (i : Addr) : Prop where
 l : Lp K w0 w2 O
 c : Conf K lo w2
 ir : IRel w2.U w2.ρ w2.s.heap k src i O
 a : w2.ρ[acc]? = some aD
theorem CIn.le (I : CIn K w0 w2 O lo acc aD k src i) (q : Le K.b (some K.L) w2 w3) (c : Conf K lo' w3) : CIn K w0 w3 O lo' acc aD k src i := ⟨I.l.le q I.ir.soft, c, I.l.ir q I.c.dic I.ir, q.p.X _ _ I.a⟩
theorem CIn.close (I : CIn K w0 w2 O lo acc aD k src i) (kp : Kp O w2.s.heap h') : ∃ w', Le K.b (some K.L) w0 w' ∧ w'.H = w2.H ∧ w'.s = { w2.s with heap := h' } ∧ Conf K lo w' ∧ w'.ρ[acc]? = some aD := by
 obtain ⟨w', q, eH, es, eρ, m⟩ := I.l.close I.ir.soft kp
 exact ⟨w', q, eH, es, I.c.mv m eρ fun o e => by rw [es]; exact kp _ o (I.l.LO _ rfl) e, eρ ▸ I.a⟩
theorem turn_c {f : Lo × St → Option (Lo × St)} {go : Lo × St → Option (Lo × St)} (T : SndT n tv) (hn : n ≤ K.n) (rest : ROk K elt gens sc p acc (d + 1) f) (htg : t.ok K.kd = true) (hif : okXs K ifs) (hp : src.pairs = true → t.isTup = true) (I : CIn K w0 w2 O lo acc aD k src i) :
  Op (fun r => (∀ w' lo', CIn K w0 w' O lo' acc aD (k + 1) src i → go (lo', w'.H) = some r → N w'.s) → (∀ w', Le K.b (some K.L) w0 w' → w'.H = r.2 → Conf K r.1 w' → w'.ρ[acc]? = some aD → F w'.s) →
   CTurn K.A (gToC (.mk t it ifs)) (.ref i) K.env E N F (CRest K.A elt.toE (toGs gens) sc p (.ref aD) K.env E N (d + 1)) w2.s)
   (ob1 (srcAt w2.H src k) fun v => match v with
    | some v => ob2 (clF tv K t ifs f v (lo, w2.H)) fun a g => cond g (go a) (some a)
    | none => some (lo, w2.H)) := by
 intro r ez kN kF
 obtain ⟨v, e2, ez⟩ := ob1_inv ez
 refine nx_snd K.R hp I.l.own I.ir v e2 _ _ _ (fun x s₁ h => h) (fun x w3 val hv st rv => ?_) fun hv h3 kp => ?_
 ·subst hv
  obtain ⟨⟨a, g⟩, e3, ez⟩ := ob2_inv ez
  obtain ⟨⟨lo4, H4⟩, e4, e3⟩ := ob2_inv e3
  obtain ⟨⟨tb, H5⟩, e5, e3⟩ := ob2_inv e3
  have I3 : CIn K w0 w3 O lo acc aD (k + 1) src i := ⟨I.l.stp st, I.c.mv st.mv st.ρ fun o => st.kp _ o (I.l.LO _ rfl), st.ir, st.ρ ▸ I.a⟩
  refine assign_snd I3.c K.R htg rv (lo4, H4) (st.H ▸ e4) _ _ fun w4 _ q4 F4 => ?_
  have I4 := I3.le q4 (I3.c.upL q4 F4.2)
  refine tests_snd T hn hif I4.c (tb, H5) (F4.1 ▸ e5) _ _ fun w5 tb' q5 r5 => ?_
  have I5 := I4.le q5.widen (I4.c.up q5)
  obtain rfl : tb' = tb := r5.2
  cases tb' with
  | true =>
   obtain ⟨a', e6, e3⟩ := ob1_inv e3
   obtain ⟨rfl, rfl⟩ := Prod.mk.inj (sI1 e3)
   exact rest lo4 w5 aD I5.a I5.c a' (r5.1 ▸ e6) E N fun w6 q6 eH c6 => kN w6 a'.1 (I5.le q6 c6) (eH ▸ ez)
  | false =>
   obtain ⟨rfl, rfl⟩ := Prod.mk.inj (sI1 e3)
   exact kN w5 lo4 I5 (r5.1 ▸ ez)
 ·subst hv
  obtain rfl := sI1 ez
  obtain ⟨w6, q6, eH6, es6, c6, a6⟩ := I.close kp
  show F { w2.s with heap := h3 }
  rw [← es6]
  exact kF w6 q6 eH6 c6 a6
theorem clause_loop {f : Lo × St → Option (Lo × St)} (T : SndT n tv) (hn : n ≤ K.n) (hd : gens[d]? = some (.mk t it ifs)) (rest : ROk K elt gens sc p acc (d + 1) f) (htg : t.ok K.kd = true) (hif : okXs K ifs) (hp : src.pairs = true → t.isTup = true) (I : CIn K w0 w2 O lo acc aD 0 src i) :
  Op (fun r => ∀ N : Shared → Prop, (∀ w', Le K.b (some K.L) w0 w' → w'.H = r.2 → Conf K r.1 w' → w'.ρ[acc]? = some aD → N w'.s) → codeAny M0 K.A (.compStart (.ListComp elt.toE (toGs gens) sc p) d (.ref i) (.ref aD) K.env) (fun r s' => (∃ f, r = .ok f) ∧ N s') w2.s) (turns (·.2) (clF tv K t ifs f) src MAXT 0 (lo, w2.H)) := by
 intro r ez N kN
 have hg : (toGs gens)[d]? = some (gToC (.mk t it ifs)) := by rw [toGs_get, hd]; rfl
 refine comp_start hg rfl (comp_loop hg rfl (fun g' e => ?_) (fun m s' => ∃ k lo2 w2, s' = w2.s ∧ turns (·.2) (clF tv K t ifs f) src m k (lo2, w2.H) = some r ∧ CIn K w0 w2 O lo2 acc aD k src i) (fun E m s' hI => ?_) MAXT ⟨0, lo, w2, rfl, ez, I⟩) (iter_again I.ir)
 ·rw [toGs_get] at e
  obtain ⟨g, _, rfl⟩ := Option.map_eq_some_iff.mp e
  cases g; rfl
 ·obtain ⟨k, lo2, w2, rfl, ez, I⟩ := hI
  cases m with
  | zero => cases ez
  | succ m => exact turn_c (go := fun a => turns (·.2) (clF tv K t ifs f) src m (k + 1) a) T hn rest htg hif hp I r ez (fun w' lo' I' ez => ⟨m, Nat.lt_succ_self m, k + 1, lo', w', rfl, ez, I'⟩) fun w' q eH c a => ⟨⟨_, rfl⟩, kN w' q eH c a⟩
noncomputable def emM (ev : X → Lo → Ce → Nat → St → Option (AV × St)) (elt : X) (K : Kn) (acc : Nat) (lo : Lo) (H : St) : Option St := ob2 (ev elt lo K.ce K.b H) fun v H => ob1 (getLst H acc) fun xs => gd (smallL xs) <| some (setN (.lst (xs ++ [v])) H acc)
theorem app_snd {x : AV} {v : Value} (hb : Nat.ble b acc = true) (ha : w.ρ[acc]? = some aD) (r : VR w x v) : Op (fun H' => ∀ (E : Value → Shared → Prop) (N : Shared → Prop), (∀ w', Le b none w w' → w'.H = H' → N w'.s) → wpAny M0 A (call (.builtin "list.append") [.ref aD, v]) (fun _ s => N s) E w.s) (ob1 (getLst w.H acc) fun xs => gd (smallL xs) <| some (setN (.lst (xs ++ [x])) w.H acc)) := by
 intro H' ez E N kN
 have hm : mfM .append (.ref acc) [x] b w.H = some (.none, H') := by
  obtain ⟨xs, e, ez⟩ := ob1_inv ez
  show (ob1 (getLst w.H acc) fun xs => gd (Nat.ble b acc && smallL xs) <| some (AV.none, setN (.lst (xs ++ [x])) w.H acc)) = _
  rw [e, hb]
  show gd (true && smallL xs) _ = _
  have ez : gd (smallL xs) (some (setN (.lst (xs ++ [x])) w.H acc)) = some H' := ez
  cases hs : smallL xs with
  | true => rw [hs] at ez; exact congrArg some (congrArg (Prod.mk AV.none) (sI1 ez))
  | false => rw [hs] at ez; cases ez
 exact mf_call (f := .append) (u := .ref acc) (v := .ref aD) (xs := [x]) (vs := [v]) ⟨aD, rfl, ha⟩ ⟨v, [], rfl, r, rfl⟩ (.none, H') hm _ E fun w' val l r => kN w' l r.1
theorem rest_nil (I : SndE n ev) (hn : n ≤ K.n) (hd : gens[d]? = none) (he : okX K elt) (hb : Nat.ble K.b acc = true) : ROk K elt gens sc p acc d (clM ev tv K (emM ev elt K acc) [] none) := by
 intro lo w aD ha c r ez E N kN
 obtain ⟨H2, e2, e⟩ := ob1_inv (o := emM ev elt K acc lo w.H) (f := fun H => some (lo, H)) ez
 obtain rfl := sI1 e
 obtain ⟨⟨v, H1⟩, e1, ez⟩ := ob2_inv e2
 unfold CRest
 rw [toGs_get, hd]
 exact I elt K lo w hn he c _ e1 _ _ fun w1 val l1 r1 => app_snd hb (l1.p.X _ _ ha) r1.2 H2 (r1.1 ▸ ez) _ _ fun w2 l2 eH => kN w2 (l1.trans l2).widen eH ((c.up l1).up l2)
theorem gs_ok {P : List Fn} {kd kd' : List (Nat × K3)} {tq : Nat} (h : okGs P kd kd' tq (.mk t it ifs :: gs) = true) : (it.ok P kd tq = true ∧ t.ok kd' = true) ∧ (oks P kd' 0 ifs = true ∧ okGs P kd' kd' 0 gs = true) ∧ (it.pairs = true → t.isTup = true) := by
 obtain ⟨h, h5⟩ := and_split h
 obtain ⟨h, h4⟩ := and_split h
 obtain ⟨h, h3⟩ := and_split h
 exact ⟨and_split h, ⟨h3, h4⟩, fun q => by rw [q] at h5; exact h5⟩
theorem rest_cons (ok : Ok0) (I : SndE n ev) (T : SndT n tv) (hn : n ≤ K.n) (htq : K.tq = 0) (hd : gens[d]? = some (.mk t it ifs)) (hgs : okGs C0.P K.kd K.kd 0 (.mk t it ifs :: gs) = true) (rest : ROk K elt gens sc p acc (d + 1) (clM ev tv K em gs none)) :
  ROk K elt gens sc p acc d (clM ev tv K em (.mk t it ifs :: gs) none) := by
 intro lo w aD ha c r ez E N kN
 obtain ⟨⟨hit, htg⟩, ⟨hif, _⟩, hpt⟩ := gs_ok hgs
 rw [← htq] at hit hif
 obtain ⟨⟨src, H1⟩, e1, ez⟩ := ob2_inv ez
 unfold CRest
 rw [toGs_get, hd]
 show wpAny _ _ (eval it.toE K.env) (fun x s₅ => wpAny M0 K.A (foldedSetIterable it.toE K.env x) _ E s₅) E w.s
 refine wpAny_mono (iter_use ok I hn hit c _ e1 (fun i s => codeAny M0 K.A (.compStart (.ListComp elt.toE (toGs gens) sc p) d i (.ref aD) K.env) (fun r s₈ => (∃ f, r = .ok f) ∧ N s₈) s) E fun w1 h1 i O l1 eH rd hp => ?_) (fun x s₁ hx => by rw [folded_it hit]; exact wpAny_pure hx) fun _ _ q => q
 obtain ⟨l2, c2⟩ := Lp.start (c.up l1) rd
 exact clause_loop T hn hd rest htg hif (fun q => hpt (hp q)) ⟨l2, c2, rd.rel, l1.p.X _ _ ha⟩ r (eH.symm ▸ ez) N fun w' q eH c' _ => kN w' (l1.widen.trans q) eH c'
theorem rest_all (ok : Ok0) (I : SndE n ev) (T : SndT n tv) (hn : n ≤ K.n) (htq : K.tq = 0) (he : okX K elt) (hb : Nat.ble K.b acc = true) : ∀ (d : Nat), gens.drop d = gs → okGs C0.P K.kd K.kd 0 gs = true → ROk K elt gens sc p acc d (clM ev tv K (emM ev elt K acc) gs none) := by
 induction gs with
 | nil => exact fun d hd _ => rest_nil I hn (by rw [List.getElem?_eq_none_iff]; exact List.drop_eq_nil_iff.mp hd) he hb
 | cons g gs ih =>
  obtain ⟨t, it, ifs⟩ := g
  intro d hd hok
  have h1 : gens[d]? = some (.mk t it ifs) := by
   have := List.getElem?_drop (xs := gens) (i := d) (j := 0)
   rw [hd] at this
   exact this.symm
  exact rest_cons ok I T hn htq h1 hok (ih (d + 1) (by rw [← List.drop_drop, hd]; rfl) (gs_ok hok).2.1.2)
end
section
variable {A : Around} {b n k d : Nat} {w w' w0 w2 w3 : Ws} {O : List Addr} {it : It} {i aD Lf : Addr} {L : Option Addr} {src : Src} {K : Kn} {lo lo' : Lo} {h1 h' : Heap} {kd' : List (Nat × K3)} {E : Value → Shared → Prop} {N F : Shared → Prop} {t : Tg} {ifs : List X} {gs gens : List G} {p : Pos} {elt : X} {V : Lvl}
theorem gd_inv {γ : Type} {c : Bool} {o : Option γ} {r : γ} (h : gd c o = some r) : c = true ∧ o = some r := by
 cases c with
 | true => exact ⟨rfl, h⟩
 | false => cases h
theorem Le.noL {a : Addr} (l : Le b (some a) w w') (h : w.s.heap.get? a = none) : Le b none w w' :=
 ⟨⟨l.p.S, ⟨l.p.E.alive, fun c o e hn ht _ => l.p.E.keep c o e hn ht fun q => nomatch (Option.some.inj q ▸ h : w.s.heap.get? c = none).symm.trans e⟩, l.p.X, l.p.N⟩, l.t, l.u, l.s⟩
theorem Le.unframe (l : Le b L w w') (hL : w.s.heap.get? Lf = none) (O : LOk w'.ρ Lf) (D : Dic (some Lf) w'.s.heap) (hs : ∀ a, a ≠ Lf → h'.get? a = w'.s.heap.get? a) : ∃ w2, Le b L w w2 ∧ w2.H = w'.H ∧ w2.s = { w'.s with heap := h' } ∧ w2.ρ = w'.ρ ∧ Mv w'.U w2.U w'.ρ w2.ρ w'.s.heap w2.s.heap := by
 obtain ⟨od, es, nd, e0, d0⟩ := D Lf rfl
 have kp : ∀ a o, w'.s.heap.get? a = some o → soft o = false ∨ (∃ vs, o.data = .fields vs) → h'.get? a = some o := fun a o e f => (hs a fun q => by
  obtain rfl := Option.some.inj ((q ▸ e).symm.trans e0)
  rcases f with f | ⟨_, f⟩
  ·unfold soft at f; rw [d0] at f; cases f
  ·rw [d0] at f; cases f).trans e
 have m : Mv w'.U w'.U w'.ρ w'.ρ w'.s.heap h' := ⟨Ext.refl, fun a vs n e z => ⟨kp _ _ e (.inl rfl), z⟩, fun _ _ e => kp _ _ e (.inl rfl), fun _ _ _ _ _ _ _ e => kp _ _ e (.inl rfl), fun v q => by
  rintro ⟨c, o, vs, t, e1, e, hd, hv⟩ _
  exact ⟨c, o, vs, t, e1, kp c o e (.inr ⟨_, hd⟩), hd, hv⟩⟩
 have ne : ∀ {a : Addr} {o : Obj}, w.s.heap.get? a = some o → a ≠ Lf := fun e q => nomatch (q ▸ hL).symm.trans e
 have S2 : SRel w'.U w'.ρ w'.H h' := w'.S.move m (fun a o e g => (hs a fun q => nomatch (q ▸ O.base).symm.trans e).trans g) (fun i a o e g => (hs a fun q => O.apart i (q ▸ e)).trans g) (fun x hx o g => (hs _ fun q => O.tab ⟨x, hx, q⟩).trans g)
  fun a ha => let ⟨_, e⟩ := w.S.hid a (l.u ▸ ha); let ⟨o, e'⟩ := l.p.E.alive a _ e; ⟨o, (hs a (ne e)).trans e'⟩
 exact ⟨⟨w'.U, w'.ρ, w'.H, { w'.s with heap := h' }, S2, w'.t⟩, ⟨⟨l.u ▸ S2, ⟨fun a o e => let ⟨o', e'⟩ := l.p.E.alive a o e; ⟨o', (hs a (ne e)).trans e'⟩, fun a o e hn ht hL => (hs a (ne e)).trans (l.p.E.keep a o e hn ht hL)⟩, l.p.X, l.p.N⟩, l.t, l.u, congrArg (fun z : Shared => { z with heap := h' }) l.s⟩, rfl, rfl, rfl, m⟩
theorem scope_loc (hnd : nodupK kd' = true) : ∀ x ∈ (scopeOf kd' []).names, x.2 = .local → (scopeOf kd' []).names.lookup x.1 = some .local := fun x hx hl => by
 obtain ⟨⟨j, u⟩, hy, rfl⟩ := List.mem_map.mp hx
 cases u <;> first | (cases hl; done) | skip
 show (kd'.map fun x => (nm x.1, x.2.kind)).lookup (nm j) = _
 rw [lookup_names, lkp_of_nodup hnd hy]; rfl
theorem scope_nc (hnc : noCel kd' = true) : ∀ x ∈ (scopeOf kd' []).names, x.2 ≠ .cell := fun x hx hl => by
 obtain ⟨⟨j, u⟩, hy, rfl⟩ := List.mem_map.mp hx
 have := List.all_eq_true.mp hnc _ hy
 cases u <;> first | (cases this; done) | (cases hl; done)
theorem comp_in (c : Conf K lo w) (I : Inn K.kd kd') {cl : List (Str × Addr)} (hcl : ∀ k i, lkp k (freeC kd' K.ce) = some i → ∃ a, w.ρ[i]? = some a ∧ cl.lookup (nm k) = some a) (rd : Rdy w h1 src i O) {h3 : Heap} (hns : h3.Ns (h1.objs.size + 1) (fun _ => none)) (hs : ∀ a o, (h1.push { cls := .type "list", data := .seq ([] : List Value).toArray }).get? a = some o → h3.get? a = some o) {tk : Nat} (htk : w.s.toks ≤ tk) :
  ∃ w2, w2.s = { w.s with heap := h3, toks := tk } ∧ w2.H = w.H ++ [.lst []] ∧ CIn (compK K kd' I cl (h1.objs.size + 1)) w w2 O [] w.H.length h1.objs.size 0 src i := by
 have pA : Post rd.ws.U K.b rd.ws.ρ none rd.ws.s.heap (rd.ws.ρ ++ [h1.objs.size]) (rd.ws.H ++ [.lst []]) (h1.push { cls := .type "list", data := .seq ([] : List Value).toArray }) :=
  Post.newLst (xs := []) (vs := []) (n := 0) rd.ws.S rfl h1.objs.size (Nat.le_refl _) (fun _ _ e => Heap.get?_push_of_some _ e) (Heap.get?_push_size _ rfl)
 have lA := Le.next pA (Nat.le_refl rd.ws.s.toks)
 have pB := Post.keep (b := K.b) (L := none) (rd.ws.next pA (Nat.le_refl _)).S hs
 have lB := Le.next pB htk
 have l2 := lA.trans lB
 have hz : (h1.push { cls := .type "list", data := .seq ([] : List Value).toArray }).objs.size ≤ h1.objs.size + 1 := Nat.le_of_eq (Heap.size_push ..)
 have old := (rd.ws.next pA (Nat.le_refl _)).S.old (none_at hz)
 have lp := Lp.init (K := compK K kd' I cl (h1.objs.size + 1)) rd fun m => by
  obtain ⟨o, e, _⟩ := rd.rel.soft _ m
  exact absurd (Heap.lt_size e) (Nat.not_lt.mpr (Nat.le_succ _))
 refine ⟨(rd.ws.next pA (Nat.le_refl _)).next pB htk, rfl, rfl, lp.le l2.widen rd.rel.soft, ⟨⟨_, hns, fun k v e => nomatch e⟩, fun k i e => ?_, old.2, old.1, (rd.ws.next pA (Nat.le_refl _)).notTab hz⟩, rd.rel.next (l2.mv Dic.none) (lp.own.kept l2.p.E fun a m z => nomatch z), ?_⟩
 ·obtain ⟨a, a1, a2⟩ := hcl k i e
  exact ⟨a, l2.p.X _ _ a1, a2⟩
 ·show (w.ρ ++ [h1.objs.size])[w.H.length]? = _
  rw [← w.S.len]; exact app_last
theorem comp_core (ok : Ok0) (I : SndE n V.ev) (T : SndT n V.tv) (hn : n ≤ K.n) (hin : okIn K.kd kd' = true) (hgs : okGs C0.P K.kd kd' K.tq (.mk t it ifs :: gs) = true) (he : elt.ok C0.P kd' 0 = true) (c : Conf K lo w) :
  Op (fun r => ∀ (use : Option (Value → Sem Unit)) (Q E : Value → Shared → Prop), (∀ I cl Lf lo2 w' aD, Le K.b none w w' → w'.H = r.2 → VR w' r.1 (.ref aD) → w.s.heap.get? Lf = none → Conf (compK K kd' I cl Lf) lo2 w' → ∀ f, compPost M0 K.A E use Q (.ref aD) Lf (.ok f) w'.s) →
   wpAny M0 K.A (comprehension (.ListComp elt.toE (toGs (.mk t it ifs :: gs)) (scopeOf kd' []) p) (scopeOf kd' []) K.env (firstIterPos (toGs (.mk t it ifs :: gs)) p) (newList []) false (eval it.toE K.env) use) Q E w.s) (compM V elt (.mk t it ifs :: gs) kd' lo K.ce K.b w.H) := by
 intro r ez use Q E fin
 obtain ⟨⟨hit, htg⟩, ⟨hif, hrest⟩, hpt⟩ := gs_ok hgs
 have hI := inn_of hin
 obtain ⟨⟨src, H1⟩, e1, ez⟩ := ob2_inv ez
 obtain ⟨hb, ez⟩ := gd_inv ez
 obtain ⟨z, e2, ez⟩ := ob2_inv ez
 obtain rfl := sI1 ez
 refine (clos_snd (mo := []) c hI).elim fun cl hcl => ?_
 refine wpAny_comprehension_free (g := gToC (.mk t it ifs)) (gs := toGs gs) rfl (folded_it hit K.env) hcl.1 rfl (scope_loc hI.nd) ?_
 refine iter_use ok I hn hit c _ e1 _ E fun w1 h1 i O l1 eH rd hp => ?_
 refine wpAny_newList (s := { w1.s with heap := h1 }) (wpAny_newFunctionEnv (scope_nc hI.nc) (fun x hx => nomatch hx) (fun h3 hns hsb => ?_) rfl) (by simp)
 rw [Heap.size_push] at hns hsb ⊢
 obtain ⟨w2, es, eH2, CI⟩ := comp_in (c.up l1) hI (fun k i e => (hcl.2 k i e).imp fun a q => ⟨l1.p.X _ _ q.1, q.2⟩) rd hns (fun a o e => hsb.extBut a o (Nat.ne_of_lt (Nat.lt_of_lt_of_eq (Heap.lt_size e) (Heap.size_push ..))) (Heap.get?_push_of_some _ e)) (Nat.le_add_right w1.s.toks 0)
 have hL1 : w1.s.heap.get? (h1.objs.size + 1) = none := by
  cases e : w1.s.heap.get? (h1.objs.size + 1) with
  | none => rfl
  | some o => exact absurd (Heap.lt_size (rd.keep _ o e)) (Nat.not_lt.mpr (Nat.le_succ _))
 have loop := clause_loop (p := p) (sc := scopeOf kd' []) (d := 0) (gens := .mk t it ifs :: gs) (K := compK K kd' hI cl (h1.objs.size + 1)) T hn rfl (rest_all (K := compK K kd' hI cl (h1.objs.size + 1)) ok I T hn rfl he (eH ▸ hb) 1 rfl hrest) htg hif (fun q => hpt (hp q)) CI z (by rw [eH2, eH]; exact e2)
  (fun s' => ∀ f, compPost M0 K.A E use Q (.ref h1.objs.size) (h1.objs.size + 1) (.ok f) s') fun w' q eH' c' a' => fin hI cl _ z.1 w' _ (l1.trans (q.noL hL1)) eH' ⟨_, rfl, eH ▸ a'⟩ (back_none l1.p.E.alive hL1) c'
 rw [es] at loop
 refine codeAny_mono loop fun r s' hr => ?_
 obtain ⟨⟨f, rfl⟩, hq⟩ := hr
 exact hq f
theorem e_comp (ok : Ok0) (I : SndE n V.ev) (T : SndT n V.tv) (hn : n ≤ K.n) {gs : List G} (hin : okIn K.kd kd' = true) (hgs : okGs C0.P K.kd kd' K.tq gs = true) (he : elt.ok C0.P kd' 0 = true) (c : Conf K lo w) : Ea K.A K.b w (eval (X.comp elt gs kd' p).toE K.env) (compM V elt gs kd' lo K.ce K.b w.H) := by
 cases gs with
 | nil => exact Ev.none
 | cons g gs =>
  obtain ⟨t, it, ifs⟩ := g
  intro r ez Q E k
  show wpAny _ _ (eval (.ListComp elt.toE (toGs (.mk t it ifs :: gs)) (scopeOf kd' []) p) K.env) Q E w.s
  rw [eval_ListComp]
  refine comp_core ok I T hn hin hgs he c r ez none Q E fun I cl Lf lo2 w' aD l eH r1 hL c' f => c'.F.elim fun m ns => ⟨m, ns.1, fun h'' hs => ?_⟩
  obtain ⟨w2, l2, eH2, es2, eρ, mv⟩ := l.unframe hL c'.O c'.dic hs.2
  rw [← es2]
  exact k w2 _ l2 ⟨eH2.trans eH, VRel.map mv r1⟩
theorem swaps_comp {k : Nat} {kp cp p : Pos} {gs : List Comprehension} {e : Expr} (hk : isLoc K.kd k = true) (hl : (kp.line == cp.line) = true) (hm : (!(kd'.any fun y => Nat.beq y.1 k && (y.2 == .loc))) = true) (hc : noCel kd' = true) : swapsWith (.ListComp e gs (scopeOf kd' []) cp) (some (.Name (nm k) kp)) p.line K.env = pure true := by
 have hblk : K.env.blockKind = .function := by unfold Env.blockKind; rw [K.kind]; rfl
 have hany : ((scopeOf kd' []).names.any fun (x : Str × NameKind) => x.1 == nm k && (x.2 == .local || x.2 == .cell)) = false := by
  rw [List.any_eq_false]
  intro x hx q
  obtain ⟨⟨j, u⟩, hy, rfl⟩ := List.mem_map.mp hx
  obtain ⟨q1, q2⟩ := and_split q
  have hj : j = k := nm_inj (eq_of_beq q1)
  rw [Bool.not_eq_true', List.any_eq_false] at hm
  refine hm _ hy ?_
  have h9 := List.all_eq_true.mp hc _ hy
  cases u
  ·rw [hj, Nat.beq_refl]; rfl
  all_goals first | (cases h9; done) | (cases q2; done)
 unfold swapsWith
 simp only [hblk, K.loc k hk]
 rw [show (kp.line == (Expr.ListComp e gs (scopeOf kd' []) cp).pos.line) = true from hl]
 rw [show ((scopeOf kd' []).names.any fun (x : Str × NameKind) => match x with | (n, k') => n == nm k && (k' == .local || k' == .cell)) = false from hany]; rfl
theorem x_asc (ok : Ok0) (I : SndE n V.ev) (T : SndT n V.tv) (hn : n ≤ K.n) {k : Nat} {kp cp : Pos} {gs : List G} (hk : isLoc K.kd k = true) (hl : (kp.line == cp.line) = true) (hm : (!(kd'.any fun y => Nat.beq y.1 k && (y.2 == .loc))) = true) (hin : okIn K.kd kd' = true) (hgs : okGs C0.P K.kd kd' K.tq gs = true) (he : elt.ok C0.P kd' 0 = true) (c : Conf K lo w) :
  Ex K w (exec (S.asc k kp (.comp elt gs kd' cp) p).toS K.env) (ob2 (compM V elt gs kd' lo K.ce K.b w.H) fun v H => some (.nx, setL k v lo, H)) := by
 cases gs with
 | nil => exact Ev.none
 | cons g gs =>
  obtain ⟨t, it, ifs⟩ := g
  intro z ez Q E kont
  obtain ⟨r, er, ez⟩ := ob2_inv ez
  obtain rfl := sI1 ez
  show wpAny _ _ (exec (.Assign [.Name (nm k) kp] (.ListComp elt.toE (toGs (.mk t it ifs :: gs)) (scopeOf kd' []) cp) p) K.env) Q E w.s
  rw [exec_Assign_Name_used _ _ _ _ (swaps_comp hk hl hm (inn_of hin).nc)]
  refine wpAny_bind (wpAny_standAt (wpAny_bind ?_))
  show wpAny _ K.A (do let _ ← comprehension (.ListComp elt.toE (toGs (.mk t it ifs :: gs)) (scopeOf kd' []) cp) (scopeOf kd' []) K.env _ (newList []) false (eval it.toE K.env) (some (assign (.Name (nm k) kp) K.env))) _ _ w.s
  refine wpAny_bind (wpAny_mono (comp_core ok I T hn hin hgs he c r er (some (assign (.Name (nm k) kp) K.env)) (fun _ s' => Q .next s') E fun I cl Lf lo2 w' aD l eH r1 hL c' f => ?_) (fun _ s' hq => wpAny_pure (wpAny_pure hq)) fun _ _ e => e)
  have hLL : K.L ≠ Lf := fun q => by
   obtain ⟨_, _, _, e, _⟩ := c.dic K.L rfl
   exact nomatch (q ▸ hL).symm.trans e
  refine wpAny_assign_Name (store_loc (A := K.A) (c.up l) hk r1 (.nx, setL k r.1 lo, w'.H) rfl (fun _ s => ∃ m, s.heap.Ns Lf m ∧ ∀ h', Heap.SameBut Lf s.heap h' → Q .next { s with heap := h' }) E fun w2 fl l2 F2 => ?_)
  obtain ⟨mm, ns, _⟩ := c'.F
  have ns2 : w2.s.heap.Ns Lf mm := ns_at ns fun o e => l2.p.E.keep Lf o e (fun i _ => c'.O.apart i) c'.O.tab fun q => hLL (Option.some.inj q)
  refine ⟨mm, ns2, fun h4 hs => ?_⟩
  have O2 : LOk w2.ρ Lf := ⟨c'.O.base, fun i e => (Nat.lt_or_ge i w'.ρ.length).elim (fun hi => c'.O.apart i (l2.p.X.old hi e)) fun hi => ns.elim fun _ q => q.elim fun _ q => q.elim fun _ q => (nomatch (l2.p.N i Lf hi e).symm.trans q.1), c'.O.tab⟩
  obtain ⟨w3, l3, eH3, es3, eρ, mv⟩ := (l.widen.trans l2).unframe hL O2 (ns_dic ns2) hs.2
  rw [← es3]
  have c2 := (c.up l).upL l2 F2.2.1
  exact kont w3 .next l3 ⟨eH3.trans (F2.1.trans eH), (c2.mv mv eρ fun o e => by rw [es3]; exact (hs.2 _ hLL).trans e).F, trivial⟩
end
theorem ltK_nil_r {a : List Int} (h : a ≠ []) : ltK a [] = false := by
 cases a with
 | nil => exact absurd rfl h
 | cons => rfl
theorem ltK_nil_l : ∀ b : List Int, ltK [] b = decide (0 < b.length)
 | [] => rfl
 | _ :: _ => by unfold ltK; simp
open PySem.AutoSeq1 (wpAny_loadPart') in
open MeetsSeq MeetsSeq2 MeetsSeq3 SeqRoads2 in
theorem lt_loopAt (l b : Addr) (items items2 : Array Value) (n n2 : Nat) (xs ys : List Int) (hx : items.size = xs.length) (hy : items2.size = ys.length) (ix : ∀ j (h : j < items.size), ∃ t, items[j] = .int (xs.getD j 0) t)
  (iy : ∀ j (h : j < items2.size), ∃ t, items2[j] = .int (ys.getD j 0) t) (k : Nat) :
  ∀ i : Nat, i ≤ items.size → i ≤ items2.size → items.size - i = k → Meets (Builtin.«list.__eq__.loop» ⟨[.ref l, .ref b, rawInt i, rawInt 0], []⟩)
   (fun A R s => s.heap.get? l = some { cls := .type "list", data := .seq items n } ∧ s.heap.get? b = some { cls := .type "list", data := .seq items2 n2 } ∧
    R (.ok (.ret (.bool (ltK (xs.drop i) (ys.drop i))))) s) := by
 induction k with
 | zero =>
  intro i hi1_ hi0 hk prog w A R s h
  obtain ⟨hp, g, d, tk, os⟩ := s; obtain ⟨hl, hb, h⟩ := h
  wp_walk using wpAny_loadPart' hl, wpAny_loadPart' hb
  have hi1 : items[((i : Nat) : Int).toNat]? = none := by simp; (first | lia | omega)
  rw [hi1]
  wp_walk using wpAny_loadPart' hl, wpAny_loadPart' hb
  show R (.ok (.ret (.bool (decide (items.size < items2.size))))) _
  have hd : xs.drop i = [] := by simp; (first | lia | omega)
  rw [hd, ltK_nil_l, List.length_drop] at h
  have : decide (items.size < items2.size) = decide (0 < ys.length - i) := by
   rw [decide_eq_decide]; (first | lia | omega)
  rw [this]; exact h
 | succ k ih =>
  intro i hi1_ hi0 hk prog w A R s h
  obtain ⟨hp, g, d, tk, os⟩ := s; obtain ⟨hl, hb, h⟩ := h
  wp_walk using wpAny_loadPart' hl, wpAny_loadPart' hb
  have hlt : i < items.size := by (first | lia | omega)
  have hi1 : items[((i : Nat) : Int).toNat]? = some items[i] := by simp [hlt]
  rw [hi1]
  have hdx : xs.drop i = xs.getD i 0 :: xs.drop (i + 1) := by
   rw [List.drop_eq_getElem_cons (by (first | lia | omega) : i < xs.length), List.getD_eq_getElem?_getD, List.getElem?_eq_getElem (by (first | lia | omega))]; rfl
  by_cases hlt2 : i < items2.size
  ·have hi2 : items2[((i : Nat) : Int).toNat]? = some items2[i] := by simp [hlt2]
   have hdy : ys.drop i = ys.getD i 0 :: ys.drop (i + 1) := by
    rw [List.drop_eq_getElem_cons (by (first | lia | omega) : i < ys.length), List.getD_eq_getElem?_getD, List.getElem?_eq_getElem (by (first | lia | omega))]; rfl
   rw [hi2]
   obtain ⟨t1, e1⟩ := ix i hlt
   obtain ⟨t2, e2⟩ := iy i hlt2
   rw [e1, e2]
   rw [hdx, hdy] at h
   refine wpAny_bind (EqAt.int_int _ _ _ _ prog w _ _ ?_)
   by_cases q : xs.getD i 0 = ys.getD i 0
   ·rw [if_pos (by rw [q]; exact beq_self_eq_true _)]
    wp_walk
    have hc : ((i : Int) + 1) = ((i + 1 : Nat) : Int) := by push_cast; rfl
    rw [hc]
    have h9 : ltK (xs.getD i 0 :: xs.drop (i + 1)) (ys.getD i 0 :: ys.drop (i + 1)) = ltK (xs.drop (i + 1)) (ys.drop (i + 1)) := by
     show cond (eqI (xs.getD i 0) (ys.getD i 0)) _ _ = _
     rw [show eqI (xs.getD i 0) (ys.getD i 0) = true from eqI_iff.mpr q]; rfl
    rw [h9] at h
    exact ⟨plainId_quiet plain_eq_loop _, codeAny_builtin entry_eq_loop (by
     rw [Around.under_plainId plain_eq_loop _]
     exact ih (i + 1) (by (first | lia | omega)) (by (first | lia | omega)) (by (first | lia | omega)) prog w A R _ ⟨hl, hb, h⟩)⟩
   ·rw [if_neg (by rw [beq_iff_eq]; exact q)]
    wp_walk using wpAny_loadPart' hl, wpAny_loadPart' hb
    rw [hi1, hi2, e1, e2]
    have h9 : ltK (xs.getD i 0 :: xs.drop (i + 1)) (ys.getD i 0 :: ys.drop (i + 1)) = decide (xs.getD i 0 < ys.getD i 0) := by
     show cond (eqI (xs.getD i 0) (ys.getD i 0)) _ _ = _
     rw [show eqI (xs.getD i 0) (ys.getD i 0) = false from by
      cases z : eqI (xs.getD i 0) (ys.getD i 0) with
      | false => rfl
      | true => exact absurd (eqI_iff.mp z) q]
     exact ltI_eq _ _
    rw [h9] at h
    refine wpAny_bind (lt_int ?_)
    wp_walk
    exact h
  ·have hi2 : items2[((i : Nat) : Int).toNat]? = none := by simp; (first | lia | omega)
   rw [hi2]
   wp_walk using wpAny_loadPart' hl, wpAny_loadPart' hb
   show R (.ok (.ret (.bool (decide (items.size < items2.size))))) _
   have hd : ys.drop i = [] := by simp; (first | lia | omega)
   rw [hd, ltK_nil_r (by rw [hdx]; exact fun q => nomatch q)] at h
   rw [decide_eq_false (by (first | lia | omega))]; exact h
open PySem.AutoSeq1 (wpAny_loadPart') in
open MeetsSeq MeetsSeq2 MeetsSeq3 SeqRoads2 in
theorem list_ltAt (l b : Addr) (items items2 : Array Value) (n n2 : Nat) (xs ys : List Int) (hx : items.size = xs.length) (hy : items2.size = ys.length) (ix : ∀ j (h : j < items.size), ∃ t, items[j] = .int (xs.getD j 0) t)
  (iy : ∀ j (h : j < items2.size), ∃ t, items2[j] = .int (ys.getD j 0) t) :
  Meets (Builtin.«list.__lt__» ⟨[.ref l, .ref b], []⟩)
   (fun A R s => s.heap.get? l = some { cls := .type "list", data := .seq items n } ∧ s.heap.get? b = some { cls := .type "list", data := .seq items2 n2 } ∧
    R (.ok (.ret (.bool (ltK xs ys)))) s) := by
 intro prog w A R s h
 obtain ⟨hp, g, d, tk, os⟩ := s; obtain ⟨hl, hb, h⟩ := h
 have f3 := AutoSeq1.sub_list_list
 wp_walk using wpAny_loadPart' hl, wpAny_loadPart' hb
 exact ⟨plainId_quiet plain_eq_loop _, codeAny_builtin entry_eq_loop (by
  rw [Around.under_plainId plain_eq_loop _]
  exact lt_loopAt l b items items2 n n2 xs ys hx hy ix iy _ 0 (Nat.zero_le _) (Nat.zero_le _) rfl prog w A R _ ⟨hl, hb, by simpa using h⟩)⟩
theorem ints_lst {vs : List Value} {ns : List Int} (is : IntsAre vs ns) : vs.toArray.size = ns.length ∧ ∀ j (h : j < vs.toArray.size), ∃ t, vs.toArray[j] = .int (ns.getD j 0) t := by
 induction is with
 | nil => exact ⟨rfl, fun j h => absurd h (Nat.not_lt_zero _)⟩
 | cons n t r ih =>
  refine ⟨congrArg (· + 1) ih.1, fun j h => ?_⟩
  cases j with
  | zero => exact ⟨_, rfl⟩
  | succ j => exact ih.2 j (Nat.lt_of_succ_lt_succ h)
theorem lt_lists {prog : Program} {w : World} {A : Around} {E : Value → Shared → Prop} {s : Shared} {l b : Addr} {vs ws : List Value} {n n2 : Nat} {xs ys : List Int} {Q : Bool → Shared → Prop} (hl : s.heap.get? l = some { cls := .type "list", data := .seq vs.toArray n })
  (hb : s.heap.get? b = some { cls := .type "list", data := .seq ws.toArray n2 }) (ix : IntsAre vs xs) (iy : IntsAre ws ys) (hu : A.units < cLine) (h : Q (ltK xs ys) s) : wpAny (model prog w) A (keyLt' oneType' (.ref l) (.ref b)) Q E s := by
 rw [keyLt'_oneType, oneLt'_eq]
 simp only [if_true]
 refine wpAny_bind (wpAny_cRoomFor hu ?_)
 refine wpAny_bind (wpAny_callSpecialIfBound?_slot (T := "list") (name := Str.ofString "__lt__") ⟨_, hl, rfl⟩ F.slot_list_lt ?_)
 refine call_meets F.slot_list_lt ⟨_, hl, rfl⟩ F.entry_list_lt (F.args_list_lt_2 _ _) (list_ltAt l b _ _ n n2 xs ys (ints_lst ix).1 (ints_lst iy).1 (ints_lst ix).2 (ints_lst iy).2) ?_
 refine ⟨hl, hb, ?_⟩
 exact wpAny_truthy_bool h
theorem runK_wp {α : Type} {c : Nat → Nat → Option Bool} {cmp : Nat → Nat → (Bool → Shared → Prop) → Shared → Prop} {s : Shared} (hc : ∀ i j, Op (fun b => ∀ C : Bool → Shared → Prop, C b s → cmp i j C s) (c i j)) {Q : α → Shared → Prop} {t : KasT α} : Op (fun a => Q a s → t.kasWp cmp Q s) (runK c t) := by
 induction t with
 | ret a => exact Op.some id
 | ask i j k ih => exact Op.ob1 fun b e r e2 q => hc i j b e _ (ih b r e2 q)
theorem kk_rel {w : Ws} {ks : List AV} {kv : List Value} (r : VRs w ks kv) : Op (fun ns => ∀ i, Op (fun a => ∃ l vs n, kv.getD i Value.none = .ref l ∧ LstAt w.s.heap l vs n ∧ IntsAre vs a) (nth ns i)) (keyInts w.H ks) := by
 induction ks generalizing kv with
 | nil => exact Op.some fun i => Op.none
 | cons x ks ih =>
  obtain ⟨v, kv, rfl, a, rs⟩ := r
  refine VR.osL a (fun v ns => ∀ i, Op (fun a => ∃ l vs n, (v :: kv).getD i Value.none = .ref l ∧ LstAt w.s.heap l vs n ∧ IntsAre vs a) (nth ns i)) fun i l xs vs n _ e r => Op.ob1 fun ns q => Op.ob1 fun t q2 => Op.some fun j => ?_
  cases j with
  | zero => exact Op.some ⟨l, vs, n, rfl, e, intsOf_at r ns q⟩
  | succ j => exact ih rs t q2 j
theorem kk_refs {w : Ws} {ks : List AV} {kv : List Value} (r : VRs w ks kv) : Op (fun _ => ∀ v ∈ kv, ∃ l o, v = .ref l ∧ w.s.heap.get? l = some o ∧ o.cls = .type "list") (keyInts w.H ks) := by
 induction ks generalizing kv with
 | nil => cases r; exact Op.some fun v m => nomatch m
 | cons x ks ih =>
  obtain ⟨v, kv, rfl, a, rs⟩ := r
  refine VR.osL a (fun v _ => ∀ u ∈ v :: kv, ∃ l o, u = .ref l ∧ w.s.heap.get? l = some o ∧ o.cls = .type "list") fun i l xs vs n _ e r => Op.ob1 fun ns q => Op.ob1 fun t q2 => Op.some fun u m => ?_
  cases m with
  | head => exact ⟨l, _, rfl, e, rfl⟩
  | tail _ m => exact ih rs t q2 u m
theorem pick_rel {w : Ws} {xs : List AV} {vs : List Value} (r : VRs w xs vs) (l : List Nat) : Op (fun out => VRs w out (l.map fun i => vs.getD i Value.none)) (pickK xs l) := by
 induction l with
 | nil => exact Op.some rfl
 | cons i l ih =>
  refine Op.ob1 fun x e => Op.ob1 fun t e2 => Op.some ?_
  obtain ⟨v, ev, rv⟩ := r.nth e
  exact ⟨v, _, by rw [List.map_cons, List.getD_eq_getElem?_getD, ev]; rfl, rv, ih t e2⟩
section
variable {A : Around} {b n : Nat} {w w' w0 w1 w2 : Ws} {O : List Addr} {D T kS fa r : Addr} {e1 : Nat} {f : AV} {kv vs : List Value} {kj xs : List AV} {ns : List Int} {vc : AV → List AV → Nat → St → Option (AV × St)} {h' : Heap}
theorem Le.adopt {L : Option Addr} {out : List AV} {m : Nat} (l : Le b L w w') (h0 : w.s.heap.get? D = none) (hB : C0.B.get? D = none) (hρ : ∀ i : Nat, w'.ρ[i]? ≠ some D) (e : LstAt w'.s.heap D vs m) (r : VRs w' out vs) : ∃ w2, Le b L w w2 ∧ w2.H = w'.H ++ [.lst out] ∧ w2.s = w'.s ∧ VR w2 (.ref w'.H.length) (.ref D) :=
 have S := w'.S.adopt (ob := .lst out) hρ hB ⟨vs, m, e, VRels.map (Mv.exts Ext.app) r⟩
 ⟨⟨w'.U, w'.ρ ++ [D], w'.H ++ [.lst out], w'.s, S, w'.t⟩, ⟨⟨l.u ▸ S, l.p.E, l.p.X.trans Ext.app, fun i c hi e => (app_split e).elim (l.p.N i c hi) fun q => q.2 ▸ h0⟩, l.t, l.u, l.s⟩, rfl, rfl, D, rfl, w'.S.len ▸ app_last⟩
structure SK (b : Nat) (w0 w1 : Ws) (D T kS : Addr) (e1 : Nat) (kv : List Value) : Prop where
 l : Lg b none w0 w1 [D, T, kS]
 eD : w1.s.heap.get? D = some (seqObj "list" #[] e1)
 eT : ∃ o, w1.s.heap.get? T = some o ∧ firm o = false
 eK : ∃ c, w1.s.heap.get? kS = some (seqObj "list" kv.toArray c)
theorem SK.sf (S : SK b w0 w1 D T kS e1 kv) : Softs w1.s.heap [D, T, kS] := all2 ⟨_, S.eD, rfl⟩ (all2 S.eT (all1 (S.eK.imp' _ fun c e => ⟨e, rfl⟩)))
theorem SK.le (S : SK b w0 w1 D T kS e1 kv) (q : Le b none w1 w2) : SK b w0 w2 D T kS e1 kv :=
 have kp := S.l.own.kept q.p.E fun a m z => nomatch z
 ⟨S.l.le q S.sf, kp D (.head _) _ S.eD, S.eT.imp fun o e => ⟨kp T (.tail _ (.head _)) _ e.1, e.2⟩, S.eK.imp fun c e => kp kS (.tail _ (.tail _ (.head _))) _ e⟩
theorem SK.push (S : SK b w0 w1 D T kS e1 kv) (nd : D ≠ kS) (nt : T ≠ kS) (k : Value) : ∃ w2, w2.s = { w1.s with heap := w1.s.heap.update kS (Obj.mapSeq (·.push k)) } ∧ w2.H = w1.H ∧ Mv w1.U w2.U w1.ρ w2.ρ w1.s.heap w2.s.heap ∧ SK b w0 w2 D T kS e1 (kv ++ [k]) := by
 obtain ⟨c, eK⟩ := S.eK
 have ne : ∀ a, a ≠ kS → (w1.s.heap.update kS (Obj.mapSeq (·.push k))).get? a = w1.s.heap.get? a := fun a q => Heap.get?_update_ne _ _ _ _ q
 have eK4 := get?_update_seq eK (·.push k)
 rw [List.push_toArray] at eK4
 have eD := (ne D nd).trans S.eD
 have eT := S.eT.imp fun o e => (⟨(ne T nt).trans e.1, e.2⟩ : _ ∧ _)
 obtain ⟨w2, es, eH, eρ, mv, l⟩ := S.l.own' (h' := w1.s.heap.update kS (Obj.mapSeq (·.push k))) S.sf (fun a o m e => (ne a fun q => m (q ▸ .tail _ (.tail _ (.head _)))).trans e) (all2 ⟨_, eD⟩ (all2 (eT.imp fun _ q => q.1) (all1 ⟨_, eK4⟩))) (Nat.le_refl w1.s.toks)
 exact ⟨w2, es, eH, mv, l, es ▸ eD, es ▸ eT, es ▸ ⟨_, eK4⟩⟩
theorem keys_loop (J : SndV n vc) (R : Rm A n) {body : Value → PUnit → Sem (ForInStep PUnit)} {NoE : Value → Shared → Prop} (nd : D ≠ kS) (nt : T ≠ kS) (hnb : ∀ x (s' : Shared) (G : Shared → Prop) E, wpAny M0 A (call (.ref fa) [x]) (fun k s2 => wpAny M0 A (Builtin.List.listUpdate (.ref kS) (·.push k)) (fun _ s3 => G s3) E s2) NoE s' →
   wpAny M0 A (body x ⟨⟩) (fun r s3 => r = .yield ⟨⟩ ∧ G s3) E s') (is : IntsAre vs ns) : ∀ {w1 : Ws} {kj : List AV} {kv : List Value}, kv.length + ns.length < 64 → SK b w0 w1 D T kS e1 kv → VRs w1 kj kv → VR w1 f (.ref fa) →
  Op (fun r => ∀ (E : Value → Shared → Prop) (Fin : Shared → Prop), (∀ w2 kv2, SK b w0 w2 D T kS e1 kv2 → w2.H = r.2 → kv2.length = kv.length + ns.length → VRs w2 (kj ++ r.1) kv2 → Fin w2.s) → wpAny M0 A (forIn vs PUnit.unit body) (fun _ s' => Fin s') E w1.s) (keysM (fun x H => vc f [x] b H) (ns.map .int) w1.H) := by
 induction is with
 | nil =>
  exact fun {w1 kj kv} _ S rk _ => Op.some fun E Fin fin => by
   rw [List.forIn_nil]
   exact wpAny_pure (fin w1 kv S rfl rfl (by rw [List.append_nil]; exact rk))
 | cons z t is ih =>
  intro w1 kj kv hl S rk rf r ez E Fin fin
  obtain ⟨⟨k, Hk⟩, hc, ez⟩ := ob2_inv ez
  obtain ⟨⟨ks, H2⟩, hk2, ez⟩ := ob2_inv ez
  obtain rfl := sI1 ez
  rw [List.forIn_cons]
  refine wpAny_bind (wpAny_mono (hnb (.int z t) _ (fun s3 => ∃ w3 kval, s3 = w3.s ∧ SK b w0 w3 D T kS e1 (kv ++ [kval]) ∧ w3.H = Hk ∧ VRs w3 (kj ++ [k]) (kv ++ [kval]) ∧ VR w3 f (.ref fa)) _ ?_) (fun r s3 hr => ?_) fun _ _ e => e)
  ·refine J f [.int z] b w1 A (.ref fa) [.int z t] R rf ⟨_, [], rfl, VR.int, rfl⟩ (k, Hk) hc _ _ fun w2 kval l2 r2 => ?_
   have S2 := S.le l2
   obtain ⟨c, eK⟩ := S2.eK
   rw [List.length_cons] at hl
   refine listUpdate_at eK rfl ?_ (by rw [List.size_toArray, sizeLine_eq]; (first | lia | omega)) (by rw [Array.size_push, List.size_toArray, sizeLine_eq]; (first | lia | omega))
   obtain ⟨w3, es, eH, mv, S3⟩ := S2.push nd nt kval
   exact ⟨w3, kval, es.symm, S3, eH.trans r2.1, VRs.append (VRels.map mv (rk.up l2)) ⟨_, [], rfl, VRel.map mv r2.2, rfl⟩, VRel.map mv (rf.up l2)⟩
  ·obtain ⟨rfl, w3, kval, rfl, S3, eH, rk3, rf3⟩ := hr
   have e3 : (kv ++ [kval]).length = kv.length + 1 := by rw [List.length_append]; rfl
   rw [List.length_cons] at hl
   exact ih (by rw [e3]; (first | lia | omega)) S3 rk3 rf3 (ks, H2) (eH ▸ hk2) E Fin fun w4 kv4 S4 eH4 hl4 r4 => fin w4 kv4 S4 eH4 (by rw [hl4, e3, List.length_cons]; (first | lia | omega)) (by rw [List.append_assoc] at r4; exact r4)
theorem tree_in {hs : Heap} {tk n0 : Nat} (hk : ∀ a o, w.s.heap.get? a = some o → hs.get? a = some o) (le : w.s.toks ≤ tk) (hD : hs.get? D = some (seqObj "list" vs.toArray n0)) (hD0 : w.s.heap.get? D = none) {g1 : Heap} (hg : g1 = hs.update D (Obj.mapSeq fun _ => (#[] : Array Value))) (e1 : Nat) (he : g1.get? D = some (seqObj "list" #[] e1)) :
  ∃ w1, w1.s = { w.s with heap := (g1.push (seqObj "tuple" vs.toArray 0)).push (seqObj "list" #[] 0), toks := tk } ∧ w1.H = w.H ∧ Mv w.U w1.U w.ρ w1.ρ w.s.heap w1.s.heap ∧ SK b w w1 D g1.objs.size (g1.objs.size + 1) e1 [] ∧ D < g1.objs.size := by
 subst hg
 have s1 := Heap.SameBut.update hs D (Obj.mapSeq fun _ => (#[] : Array Value))
 have hsz : (hs.update D (Obj.mapSeq fun _ => (#[] : Array Value))).objs.size = hs.objs.size := Heap.size_update ..
 have kp : ∀ a o, w.s.heap.get? a = some o → (((hs.update D (Obj.mapSeq fun _ => (#[] : Array Value))).push (seqObj "tuple" vs.toArray 0)).push (seqObj "list" #[] 0)).get? a = some o := fun a o e =>
  Heap.get?_push_of_some _ (Heap.get?_push_of_some _ ((s1.2 a fun q => nomatch (q ▸ hD0).symm.trans e).trans (hk a o e)))
 have eD := Heap.get?_push_of_some (seqObj "list" #[] 0) (Heap.get?_push_of_some (seqObj "tuple" vs.toArray 0) he)
 have eT := Heap.get?_push_of_some (seqObj "list" #[] 0) (Heap.get?_push_size (hs.update D (Obj.mapSeq fun _ => (#[] : Array Value))) (o := seqObj "tuple" vs.toArray 0) rfl)
 have eK := Heap.get?_push_size ((hs.update D (Obj.mapSeq fun _ => (#[] : Array Value))).push (seqObj "tuple" vs.toArray 0)) (o := seqObj "list" #[] 0) rfl
 rw [size_push'] at eK
 have no : ∀ a, hs.objs.size ≤ a → w.s.heap.get? a = none := fun a q => by
  cases e : w.s.heap.get? a with
  | none => rfl
  | some o => exact absurd (Heap.lt_size (hk a o e)) (Nat.not_lt.mpr q)
 have fr : ∀ a ∈ [D, (hs.update D (Obj.mapSeq fun _ => (#[] : Array Value))).objs.size, (hs.update D (Obj.mapSeq fun _ => (#[] : Array Value))).objs.size + 1], w.s.heap.get? a = none := all2 hD0 (all2 (no _ (Nat.le_of_eq hsz.symm)) (all1 (no _ (Nat.le_succ_of_le (Nat.le_of_eq hsz.symm)))))
 have S1 := w.S.hide fr kp (all2 ⟨_, eD⟩ (all2 ⟨_, eT⟩ (all1 ⟨_, eK⟩)))
 refine ⟨⟨_, w.ρ, w.H, { w.s with heap := _, toks := tk }, S1, Nat.lt_of_lt_of_le w.t le⟩, rfl, rfl, Mv.hide fr kp, ⟨⟨rfl, ⟨S1, Evo.of kp, Ext.refl, Fresh.refl⟩, le, rfl, Own.new w.S fr, fr, fun a q => nomatch q⟩, eD, ⟨_, eT, rfl⟩, 0, eK⟩, hsz ▸ Heap.lt_size hD⟩
theorem tree_snd (J : SndV n vc) (R : Rm A n) {n0 tk : Nat} {hs : Heap} (hk : ∀ a o, w.s.heap.get? a = some o → hs.get? a = some o) (le : w.s.toks ≤ tk) (hD : hs.get? D = some (seqObj "list" vs.toArray n0)) (hD0 : w.s.heap.get? D = none) (is : IntsAre vs ns) (h2 : 2 ≤ vs.length) (h64 : vs.length < 64) (hl : vs.length = ns.length) (rf : VR w f (.ref fa)) :
  Op (fun r => ∀ (Pf : PySem.Fin → Shared → Prop) (E : Value → Shared → Prop), (∀ w2, Le b none w w2 → w2.H = r.2 → VR w2 r.1 (.ref D) → Pf (.done (.ret .none)) w2.s) → wpAny M0 A (ksk_tree D (.ref fa) false) Pf E { w.s with heap := hs, toks := tk })
   (ob2 (keysM (fun x H => vc f [x] b H) (ns.map .int) w.H) fun ks H => ob1 (keyInts H ks) fun z => ob1 (sortK z (ns.map .int)) fun out => newL H out) := by
 intro r ez Pf E kont
 obtain ⟨⟨ks, H1⟩, ek, ez⟩ := ob2_inv ez
 obtain ⟨z, ei, ez⟩ := ob1_inv ez
 obtain ⟨out, ho, ez⟩ := ob1_inv ez
 obtain rfl := sI1 ez
 obtain ⟨_, ho⟩ := gd_inv ho
 obtain ⟨p, hp, ho⟩ := ob1_inv ho
 unfold ksk_tree
 refine wpAny_bind (listItems_at hD rfl ?_)
 refine wpAny_bind (listUpdate_at hD rfl ?_ (by rw [List.size_toArray, sizeLine_eq]; (first | lia | omega)) (Nat.zero_le _))
 have ho1 := get?_update_seq hD fun _ => #[]
 refine wpAny_bind (seqEpoch_at ho1 rfl ?_)
 refine wpAny_bind (wpAny_newTuple ?_ (by show vs.length ≤ _; rw [sizeLine_eq]; (first | lia | omega)))
 refine wpAny_bind (wpAny_newList ?_ (Nat.zero_le _))
 refine wpAny_holding ?_
 generalize hg : hs.update D (Obj.mapSeq fun _ => (#[] : Array Value)) = g1 at *
 obtain ⟨w1, es, eH, mv, S, hDlt⟩ := tree_in (b := b) hk le hD hD0 hg.symm _ ho1
 show wpAny M0 A (ksk_rest D (.ref fa) false vs.toArray _ (.ref (g1.push (seqObj "tuple" vs.toArray 0)).objs.size)) Pf E { w.s with heap := (g1.push (seqObj "tuple" vs.toArray 0)).push (seqObj "list" #[] 0), toks := tk }
 rw [size_push', ← es]
 generalize (if (#[] : Array Value).size == vs.toArray.size then n0 else n0 + 1) = e1 at *
 unfold ksk_rest
 refine wpAny_bind (wpAny_rule ?_)
 rw [List.forIn_toArray]
 refine wpAny_bind (wpAny_mono (keys_loop (kj := []) (NoE := fun _ _ => False) J R (Nat.ne_of_lt (Nat.lt_succ_of_lt hDlt)) (Nat.ne_of_lt (Nat.lt_succ_self _)) (fun x s' G E hx => ?_) is (by rw [List.length_nil, Nat.zero_add, ← hl]; exact h64) S rfl (VRel.map mv rf) (ks, H1) (eH ▸ ek) E (fun s3 => wpAny M0 A (do
   let keys ← Builtin.List.listItems (.ref (g1.objs.size + 1))
   ksk_end D false vs.toArray e1 (.ref (g1.objs.size + 1)) keys) Pf E s3) fun wf kv Sf eHf hlf rkf => ?_) (fun _ s' hq => hq) fun _ _ e => e)
 ·refine wpAny_bind (wpAny_attempt (wpAny_mono hx (fun k s'' hk => ?_) fun _ _ hF => hF.elim))
  exact wpAny_bind (wpAny_mono hk (fun _ s3 hg => wpAny_pure ⟨rfl, hg⟩) fun _ _ e => e)
 ·have hlv : kv.length = vs.length := by rw [hlf, List.length_nil, Nat.zero_add, hl]
  obtain ⟨c, eKf⟩ := Sf.eK
  refine wpAny_bind (listItems_at eKf rfl ?_)
  have hn2 : ¬ vs.toArray.size < 2 := by rw [List.size_toArray]; (first | lia | omega)
  unfold ksk_end
  rw [if_neg Bool.false_ne_true, if_neg hn2, if_neg hn2]
  have ei' : keyInts wf.H ks = some z := eHf ▸ ei
  refine wpAny_bind (kas_kind (T := .type "list") (by (first | lia | omega)) (fun v m => ?_) (by decide) (by decide) ?_)
  ·obtain ⟨l, o, rfl, e, hc⟩ := kk_refs rkf z ei' v m
   exact fun A' Q' E' s' k' q' => wpAny_typeOf (T := "list") ⟨o, k' _ _ e, hc⟩ q'
  rw [if_neg Bool.false_ne_true]
  have ask : (kas_sort vs.length).kasWp (kas_ask C0.prog C0.w A oneType' kv) (fun p' s' => p' = p ∧ s' = wf.s) wf.s := by
   rw [List.length_map, ← hl] at hp
   refine runK_wp (c := askK z) (fun i j => Op.ob1 fun a na => Op.ob1 fun c' nc => Op.some fun G g => ?_) p hp ⟨rfl, rfl⟩
   obtain ⟨l, us, m1, x1, x2, x3⟩ := kk_rel rkf z ei' i a na
   obtain ⟨l', us', m1', y1, y2, y3⟩ := kk_rel rkf z ei' j c' nc
   show wpAny _ _ (keyLt' oneType' _ _) _ _ _
   rw [x1, y1]
   exact lt_lists x2 y2 x3 y3 R.units g
  refine wpAny_bind (wpAny_mono (kat_run (Q := fun st' s' => arrOf st' = p.map (kas_item ((List.toArray kv).zip (List.toArray vs))) ∧ p.size = vs.length ∧ failedOf st' = none ∧ s' = wf.s) hlv h2 h64 (fun p' st' s' a1 a2 a3 a4 => ?_) ask) ?_ fun _ _ e => e)
  ·obtain ⟨rfl, rfl⟩ := a4
   exact ⟨a2, a1, a3, rfl⟩
  rintro ⟨⟨⟩, st'⟩ s' ⟨har, hps, hf', rfl⟩
  have hout := kat_snds hlv har
  have hlo : (p.toList.map fun i => vs.getD i Value.none).length < 64 := by rw [List.length_map, Array.length_toList, hps]; exact h64
  have ro : ∀ {wx : Ws}, VRs wx out (p.toList.map fun i => vs.getD i Value.none) := fun {wx} => pick_rel (ints_rel is : VRs wx (ns.map .int) vs) p.toList out ho
  generalize (p.toList.map fun i => vs.getD i Value.none) = ov at *
  unfold ksk_tail
  dsimp only
  rw [hout, hf']
  have hsz : (List.toArray ov).size = ov.length := List.size_toArray ..
  refine wpAny_bind (listUpdate_at eKf rfl ?_ (by rw [List.size_toArray, sizeLine_eq]; (first | lia | omega)) (Nat.zero_le _))
  refine wpAny_bind (wpAny_letGo ?_)
  have eD5 : (wf.s.heap.update (g1.objs.size + 1) (Obj.mapSeq fun _ => (#[] : Array Value))).get? D = some (seqObj "list" #[] e1) := (Heap.get?_update_ne _ _ _ _ (Nat.ne_of_lt (Nat.lt_succ_of_lt hDlt))).trans Sf.eD
  refine wpAny_bind (seqEpoch_at eD5 rfl ?_)
  refine wpAny_bind (listUpdate_at eD5 rfl ?_ (Nat.zero_le _) (Nat.le_trans (Nat.le_of_eq hsz) (by rw [sizeLine_eq]; (first | lia | omega))))
  rw [bne_self_eq_false, if_neg Bool.false_ne_true]
  have eD6 := get?_update_seq eD5 fun _ => List.toArray ov
  obtain ⟨w4, l4, eH4, es4, eρ4, mv4⟩ := Sf.l.close (h' := (wf.s.heap.update (g1.objs.size + 1) (Obj.mapSeq fun _ => (#[] : Array Value))).update D (Obj.mapSeq fun _ => List.toArray ov)) Sf.sf fun a o m e =>
   (Heap.get?_update_ne _ _ _ _ (fun (q : a = D) => m (q ▸ .head _))).trans ((Heap.get?_update_ne _ _ _ _ (fun (q : a = g1.objs.size + 1) => m (q ▸ .tail _ (.tail _ (.head _))))).trans e)
  obtain ⟨w5, l5, eH5, es5, r5⟩ := l4.adopt (D := D) (out := out) (vs := ov) hD0 (Sf.l.own.base D (.head _)) (eρ4 ▸ Sf.l.own.apart D (.head _)) (by rw [es4]; exact eD6) ro
  have fin := kont w5 l5 (by rw [eH5, eH4, eHf]) (eHf ▸ eH4 ▸ r5)
  rw [es5, es4] at fin
  exact wpAny_pure fin
end
section
variable {A : Around} {b n : Nat} {w w' w0 w1 w2 : Ws} {f : AV} {K : Kn} {lo : Lo} {V : Lvl} {fa r : Addr}
theorem collect_range {prog : Program} {w : World} {s : Shared} {E : Value → Shared → Prop} {r : Addr} {a c d : Int} {t u o : Tok} {n : Nat} {Q : List Value → Shared → Prop} (hh : A.handled = none) (hr : IsRange s.heap r a c d t u o) (hsmall : Builtin.Range.small a c d = true)
  (hn : Builtin.Range.rangeSize a c d = n) (hlen : n ≤ 2 ^ 24)
  (hQ : ∀ h' tk acc, (∀ b o, s.heap.get? b = some o → h'.get? b = some o) → ItemsOf (fun i v => ∃ t, v = .int (a + i * d) t) acc n → Q acc.toList { s with heap := h', toks := tk }) : wpAny (model prog w) A (collect (.ref r)) Q E s := by
 unfold collect
 refine wpAny_bind (wpAny_runValue (codeAny_builtin entry_proto_collect' ?_))
 rw [Around.under_plainId F.plain_proto_collect _]
 show wpAny _ A.in1 (newList [] >>= fun l => again (.builtin "list.__iadd__" ⟨[l, .ref r], []⟩)) _ _ s
 refine wpAny_bind (wpAny_newObj_type ?_)
 refine wpAny_pure ⟨plainId_quiet F.plain_list_iadd _, codeAny_builtin F.entry_list_iadd ?_⟩
 rw [Around.under_plainId F.plain_list_iadd _]
 show wpAny _ A.in1 (Builtin.List.listExtendWith (.ref s.heap.objs.size) (.ref r) (.ref s.heap.objs.size)) _ _ _
 refine wpAny_extend_range (R := fun r s' => match r with
  | .ok (.ret v) => wpAny (model prog w) A (match v with
   | .ref a => do
    let o ← load a
    match o.data with
    | .seq xs _ => pure xs.toList
    | _ => unsupported "internal:collect"
   | _ => unsupported "internal:collect") Q E s'
  | .ok _ => False
  | .error e => E e s') (s := { s with heap := s.heap.push { cls := .type "list", data := .seq ([] : List Value).toArray } }) hh (Heap.get?_push_of_some _ hr) hsmall hn hlen s.heap.objs.size (.ref s.heap.objs.size) 0 (Heap.get?_push_size _ rfl) fun h' tk acc' c' hk hS' hacc => ?_
 show wpAny _ A (load s.heap.objs.size >>= _) _ _ _
 refine wpAny_bind (wpAny_load hS' ?_)
 exact wpAny_pure (hQ h' tk acc' (fun b o e => hk b o (Nat.ne_of_lt (Heap.lt_size e)) (Heap.get?_push_of_some _ e)) hacc)
theorem Rm.in2 (R : Rm A (n + 1)) : Rm A.in1.in1 n := ⟨R.hd, by have := R.dp; show A.depth + n ≤ 900; (first | lia | omega), by have := R.un; show A.units + 1 + 1 + 12 * n ≤ 9000; (first | lia | omega)⟩
theorem ints_of : ∀ ns : List Int, intsOf (ns.map .int) = some ns
 | [] => rfl
 | x :: r => by show (ob1 (intsOf (r.map .int)) fun t => some (x :: t)) = _; rw [ints_of r]; rfl
theorem range_ints (w : Ws) {a c d : Int} {acc : Array Value} (h : ItemsOf (fun i v => ∃ t, v = .int (a + i * d) t) acc (rangeN a c d)) : IntsAre acc.toList (rangeL a c d) := by
 obtain ⟨hsz, hat⟩ := h
 refine intsOf_at (w := w) (xs := (rangeL a c d).map .int) ?_ _ (ints_of _)
 unfold rangeL
 rw [List.map_map]
 refine made_rel (w := w) _ _ _ (by rw [List.length_range]; exact hsz) fun j hj v hv => ?_
 obtain ⟨t, rfl⟩ := hat j v (Array.getElem?_toList .. ▸ hv)
 rw [List.getElem_range]
 exact VR.int
noncomputable def sortO (vc : AV → List AV → Nat → St → Option (AV × St)) (f : AV) (b : Nat) (xs : List Int) (H : St) : Option (AV × St) := ob2 (keysM (fun x H => vc f [x] b H) (xs.map .int) H) fun ks H => ob1 (keyInts H ks) fun z => ob1 (sortK z (xs.map .int)) fun out => newL H out
theorem sort_snd {vc : AV → List AV → Nat → St → Option (AV × St)} (J : SndV n vc) (R : Rm A (n + 1)) {p q d : Int} {t u o : Tok} (hz : (smallI p && smallI q && smallI d && !eqI d 0 && Nat.blt (rangeN p q d) 64) = true) (er : IsRange w.s.heap r p q d t u o) (rf : VR w f (.ref fa)) :
  Ea A b w (call (.builtin "sorted") [.ref r] [(nm 46, .ref fa)]) (sortO vc f b (rangeL p q d) w.H) := by
 intro z ez Q E k
 obtain ⟨hz, h5⟩ := and_split hz
 obtain ⟨hz, h4⟩ := and_split hz
 obtain ⟨hz, h3⟩ := and_split hz
 obtain ⟨h1, h2⟩ := and_split hz
 have l5 : rangeN p q d < 64 := Nat.le_of_ble_eq_true h5
 have ll : (rangeL p q d).length = rangeN p q d := by unfold rangeL; rw [List.length_map, List.length_range]
 have l2 : 2 ≤ rangeN p q d := by
  obtain ⟨_, _, e⟩ := ob2_inv ez
  obtain ⟨_, _, e⟩ := ob1_inv e
  obtain ⟨_, e, _⟩ := ob1_inv e
  have := Nat.le_of_ble_eq_true (gd_inv e).1
  rw [List.length_map, ll] at this
  exact this
 rw [show nm 46 = Str.ofString "key" from rfl]
 refine call_function_entry_kw kind_sorted plain_sorted entry_sorted (ksk_s1 _ _) ?_
 unfold Builtin.«sorted»
 refine wpAny_bind (m := checkCount "sorted" 1 1 _) (wpAny_pure ?_)
 refine wpAny_bind (wpAny_with_toks (n := w.s.toks) (Nat.le_refl _) (collect_range (n := rangeN p q d) R.hd er (rng_small h1 h2 h3) (rangeN_eq (eqI_ne h4)) (by (first | lia | omega)) fun h' tk acc hk' hacc hle => ?_))
 have hsz : acc.toList.length = rangeN p q d := by rw [Array.length_toList]; exact hacc.1
 refine wpAny_bind (wpAny_newList ?_ (by rw [hsz, sizeLine_eq]; (first | lia | omega)))
 refine wpAny_bind (wpAny_holding (wpAny_call_entry_kw slot_list_sort ⟨_, Heap.get?_push_size _ rfl, rfl⟩ entry_list_sort ?_ (ksk_l1 _ _)))
 rw [ksk_t1]
 refine tree_snd (hs := h'.push { cls := .type "list", data := .seq acc.toList.toArray }) (n0 := 0) J R.in2 (fun a o e => Heap.get?_push_of_some _ (hk' a o e)) hle (Heap.get?_push_size _ rfl) ?_ (range_ints w hacc) (by (first | lia | omega)) (by (first | lia | omega)) (hsz.trans ll.symm) rf z ez _ E fun w2 l2 eH r2 => ?_
 ·cases e : w.s.heap.get? h'.objs.size with
  | none => rfl
  | some o => exact absurd (Heap.lt_size (hk' _ _ e)) (Nat.lt_irrefl _)
 ·exact ⟨_, rfl, wpAny_pure ⟨_, rfl, k w2 _ l2 ⟨eH, r2⟩⟩⟩
theorem clo_ref {v : Value} (hc : isClo f = true) (r : VR w f v) : ∃ a, v = .ref a := by
 cases f with
 | cloX => obtain ⟨a, _, e, _⟩ := r; exact ⟨a, e⟩
 | cloS => obtain ⟨a, _, e, _⟩ := r; exact ⟨a, e⟩
 | _ => cases hc
theorem kws1 {γ : Type} {ev : X → St → Option (AV × St)} {k : Nat} {x : X} {q : Pos} {H : St} {g : List (Nat × AV) → St → Option γ} : ob2 (evk ev [.mk k x q] H) g = ob2 (ev x H) fun v H => g [(k, v)] H := by
 show ob2 (ob2 (ev x H) _) g = _
 cases ev x H with
 | none => rfl
 | some p => rfl
theorem e_sortk (ok : Ok0) (I : SndE n V.ev) (J : SndV n V.vc) (hn : n + 1 ≤ K.n) {a key : X} {kp np p : Pos} (hg : isG K.kd 151 = true) (ha : okX K a) (hk : okX K key) (c : Conf K lo w) : Ea K.A K.b w (eval (X.sortk a key kp np p).toE K.env)
  (ob2 (V.ev a lo K.ce K.b w.H) fun u H => asG u fun p q r => gd (smallI p && smallI q && smallI r && !eqI r 0 && Nat.blt (rangeN p q r) 64) <| ob2 (V.ev key lo K.ce K.b H) fun f H => gd (isClo f) <| sortO V.vc f K.b (rangeL p q r) H) := by
 have hn' := Nat.le_of_succ_le hn
 have ho : okXs K [a] := Bool.and_eq_true_iff.mpr ⟨ha, rfl⟩
 have hko : okKs C0.P K.kd K.tq [.mk 46 key kp] = true := Bool.and_eq_true_iff.mpr ⟨hk, rfl⟩
 have h : Ea K.A K.b w (eval (X.sortk a key kp np p).toE K.env) (ob2 (evs (fun x H => V.ev x lo K.ce K.b H) [a] w.H) fun us H => tk1 us fun u => asG u fun p q r => gd (smallI p && smallI q && smallI r && !eqI r 0 && Nat.blt (rangeN p q r) 64) <|
   ob2 (evk (fun x H => V.ev x lo K.ce K.b H) [.mk 46 key kp] H) fun ks H => match ks with
    | [k] => gd (isClo k.2) <| sortO V.vc k.2 K.b (rangeL p q r) H
    | _ => none) := by
  refine Ev.bind (args_snd I hn' ho c) (G := fun vals s Q E => wpAny M0 K.A (evalAll ((kwT K.env p [.mk 46 key kp]).map (·.2))) (fun kvals s => wpAny M0 K.A (call (.builtin "sorted") vals (((kwT K.env p [.mk 46 key kp]).filterMap (·.1)).zip kvals)) Q E s) E s) (fun Q E h => ?_) fun w1 us vals l1 r1 => ?_
  ·show wpAny _ _ (do callWith p (← eval (.Name (nm 151) np) K.env) [] (backTo p (starEach (toEs [a]) K.env)) (backToKw p (keywordEach (toKs [.mk 46 key kp]) K.env))) Q E w.s
   rw [back_args K.env p [a] ho, back_kws]
   exact wpAny_bind (wpAny_Name (glb_load ok hg (.inr (ok.bl 151 (.builtin "sorted") (by simp))) _ E (callWith_builtin_kwB any_plain rfl (evalArgs_all h))) (nm_debug _))
  ·refine r1.o1 (fun vals => EvP K.b none (Pr VR) w1 fun Q E => wpAny M0 K.A (evalAll ((kwT K.env p [.mk 46 key kp]).map (·.2))) (fun kvals s => wpAny M0 K.A (call (.builtin "sorted") vals (((kwT K.env p [.mk 46 key kp]).filterMap (·.1)).zip kvals)) Q E s) E w1.s) fun u val r => ?_
   refine VR.osG r (fun val => EvP K.b none (Pr VR) w1 fun Q E => wpAny M0 K.A (evalAll ((kwT K.env p [.mk 46 key kp]).map (·.2))) (fun kvals s => wpAny M0 K.A (call (.builtin "sorted") [val] (((kwT K.env p [.mk 46 key kp]).filterMap (·.1)).zip kvals)) Q E s) E w1.s) fun pp q d ra t0 t1 t2 er => Ev.gd fun hz => ?_
   refine Ev.bd (kws_snd I hn' p hko (c.up l1)) fun w2 ks kvals l2 r2 => ?_
   cases ks with
   | nil => exact Ev.none
   | cons k ks =>
    cases ks with
    | cons => exact Ev.none
    | nil =>
     refine Ev.gd fun hc => ?_
     obtain ⟨e, kv, ws, rfl, rk, rfl⟩ := r2
     obtain ⟨fa, rfl⟩ := clo_ref hc rk
     exact Ev.to (sort_snd J (K.R.le hn) hz (keepFirm w1.S l2.p.E Dic.none er rfl) rk) fun Q E h => h
 rw [evs1] at h
 exact fun z ez => h z (by
  obtain ⟨pu, e1, ez⟩ := ob2_inv ez
  rw [e1]
  obtain ⟨u, H⟩ := pu
  cases u <;> try (cases ez; done)
  obtain ⟨hz, ez⟩ := gd_inv ez
  show gd _ (ob2 (evk _ _ H) _) = _
  rw [hz, kws1]
  exact ez)
end
section
variable {n : Nat} {w : Ws} {K : Kn} {lo : Lo} {V : Lvl}
theorem e_var (c : Conf K lo w) {k : Nat} {p : Pos} (hv : isV K.kd k = true) : Ea K.A K.b w (eval (X.var k p).toE K.env) (ob1 (varM k lo K.ce w.H) fun v => some (v, w.H)) :=
 Ev.ob1 fun v e => (var_load (A := K.A) c hv v e).elim fun val q => Ea.now q.1 fun Q E k => wpAny_Name (q.2 Q E k) (nm_debug _)
theorem e_gcon (ok : Ok0) {k : Nat} {u : AC} {p : Pos} (hg : isG K.kd k = true) (hw : (match lkp k gcons with | some u' => AC.same u u' | none => false) = true) : Ea K.A K.b w (eval (X.gcon k u p).toE K.env) (some (u.av, w.H)) := by
 have go : ∀ {val}, C0.mg (nm k) = some val → VR w u.av val → Ea K.A K.b w (eval (X.gcon k u p).toE K.env) (some (u.av, w.H)) := fun hm r => Ea.now r fun Q E q => wpAny_Name (glb_load ok hg (.inl hm) Q E q) (nm_debug _)
 unfold gcons lkp at hw
 split at hw
 ·rename_i u' hu
  split at hu
  ·rename_i h2
   obtain rfl := Nat.eq_of_beq_eq_true h2
   obtain rfl := sI1 hu
   cases u <;> try (cases hw; done)
   rename_i l
   obtain ⟨t, ht⟩ := ok.gc0
   exact go ht (eqL_iff.mp (hw : eqL l [46, 46, 46] = true) ▸ VR.str)
  ·unfold lkp at hu
   split at hu
   ·rename_i h2
    obtain rfl := Nat.eq_of_beq_eq_true h2
    obtain rfl := sI1 hu
    cases u <;> try (cases hw; done)
    rename_i i
    obtain ⟨t, ht⟩ := ok.gc1
    exact go ht (eqI_iff.mp (hw : eqI i 4000 = true) ▸ VR.int)
   ·cases hu
 ·cases hw
theorem shape_of {o : X} (hn : notCall o = true) (hok : okX K o) (env : Env) (a : Str) (w : Sem Value) : attributeBase o.toE a env w = w := by
 cases o <;> first | rfl | (cases hn; done) | cases hok
theorem and3 {a b c : Bool} (h : (a && b && c) = true) : a = true ∧ b = true ∧ c = true := ⟨(and_split (and_split h).1).1, (and_split (and_split h).1).2, (and_split h).2⟩
theorem e_mcall (I : SndE n V.ev) (hn : n ≤ K.n) {m : MF} {o : X} {args : List X} {ap p : Pos} (hok : okX K (.mcall m o args ap p)) (c : Conf K lo w) : Ea K.A K.b w (eval (X.mcall m o args ap p).toE K.env) (ob2 (V.ev o lo K.ce K.b w.H) fun u H => ob1 (recvM m u H) fun _ => ob2 (evs (fun x H => V.ev x lo K.ce K.b H) args H) fun vs H => mfM m u vs K.b H) :=
 have h := and_split hok
 have h4 := and_split h.1
 have h3 := and3 h4.1
 mcall_snd I hn h3.1 h3.2.1 (Nat.le_of_ble_eq_true h3.2.2) h.2 (fun a w => shape_of h4.2 h3.1 K.env a w) c
theorem ev_step (D : Snd n V) (ok : Ok0) : SndE (n + 1) (evS V) := by
 intro x K lo w hn hok c
 have hn' := Nat.le_of_succ_le hn
 cases x with
 | cst cc u p => exact cst_snd hok
 | var k p => exact e_var c hok
 | gcon k u p => exact e_gcon ok (and_split hok).1 (and_split hok).2
 | bin l op r p => exact e_bin D.ev hn' (and_split hok).1 (and_split hok).2 c
 | un op x p => exact e_un D.ev hn' hok c
 | bop op xs p => cases op with
  | And => exact bop_snd D.ev hn' .And p xs w hok c
  | Or => exact bop_snd D.ev hn' .Or p xs w hok c
 | cmp l op r p => exact e_cmp ok D.ev hn (and_split hok).1 (and_split hok).2 c
 | cmp2 l op m op2 r p => exact e_cmp2 ok D.ev hn (and3 hok).1 (and3 hok).2.1 (and3 hok).2.2 c
 | ite x t e p => exact e_ite D.ev D.tv hn' (and3 hok).1 (and3 hok).2.1 (and3 hok).2.2 c
 | tupl xs p => exact e_tupl D.ev hn' hok c
 | list xs p => exact e_list D.ev hn' hok c
 | idx o i p => exact e_idx D.ev hn' (and_split hok).1 (and_split hok).2 c
 | slc o l u st sp p => exact e_slc D.ev hn' (and3 (and_split hok).1).1 (and3 (and_split hok).1).2.1 (and3 (and_split hok).1).2.2 (and_split hok).2 c
 | gcall f k args kw np p =>
  have h := and3 hok
  have h' := and3 h.1
  exact gcall_snd ok D.ev D.cl hn' (fun q => by subst q; cases h.2.2) (fun q => by subst q; cases h.2.2) (and_split h'.1).1 (and_split h'.1).2 h'.2.1 h'.2.2 c
 | bcall f args np p => exact bcall_snd ok D.ev hn' (and3 hok).2.1 (and3 hok).1 c
 | sortk a key kp np p => exact e_sortk ok D.ev D.vc hn (and3 hok).1 (and3 hok).2.1 (and3 hok).2.2 c
 | mcall m o args ap p => exact e_mcall D.ev hn' hok c
 | vcall k args np p => exact vcall_snd D.ev D.vc hn' (and3 hok).1 (and3 hok).2.1 c
 | comp elt gs kd2 p => exact e_comp ok D.ev D.tv hn' (and3 hok).1 (and3 hok).2.1 (and3 hok).2.2 c
 | lam ps body kd2 mo p =>
  have h := and3 hok
  have h' := and3 h.1
  exact lam_snd ok (Nat.eq_of_beq_eq_true h'.1) h'.2.1 h'.2.2 h.2.1 h.2.2 c
 | raw e => exact Ev.none
theorem t_plain (I : SndE n V.ev) (hn : n ≤ K.n) {x : X} (hok : okX K x) (he : ∀ whole, PySem.isTrue x.toE K.env whole = (do let v ← whole; standAt x.toE.pos; holding [v] (truthy v))) (c : Conf K lo w) :
  Eb K.A K.b w (PySem.isTrue x.toE K.env (eval x.toE K.env)) (ob2 (V.ev x lo K.ce K.b w.H) fun v H => ob1 (truthM v H) fun t => some (t, H)) :=
 Ev.bind (I x K lo w hn hok c) (fun Q E h => wpAny_isTrue_value h (he _)) fun w1 u v l1 r1 => Ev.m1 (truth_snd r1)
theorem tv_step (D : Snd n V) (ok : Ok0) : SndT (n + 1) (tvS V) := by
 intro x K lo w hn hok c
 have hn' := Nat.le_of_succ_le hn
 cases x with
 | un op x p =>
  cases op with
  | Not => exact Ev.bind (D.tv x K lo w hn' hok c) (G := fun b s Q E => Q (!b) s) (fun Q E h => wpAny_isTrue_Not h) fun w1 u v l1 r1 => Eb.ret rfl (congrArg (!·) r1)
  | _ => exact t_plain D.ev hn' hok (fun _ => rfl) c
 | bop op xs p => cases op with
  | And => exact Ev.to (all_snd D.tv hn' .And xs w hok c) fun Q E h => wpAny_isTrue_BoolOp h
  | Or => exact Ev.to (all_snd D.tv hn' .Or xs w hok c) fun Q E h => wpAny_isTrue_BoolOp h
 | cmp l op r p => exact t_cmp ok D.ev hn (and_split hok).1 (and_split hok).2 c
 | cmp2 l op m op2 r p => exact t_cmp2 ok D.ev hn (and3 hok).1 (and3 hok).2.1 (and3 hok).2.2 c
 | ite x t e p => exact Ev.none
 | raw e => cases hok
 | _ => exact t_plain D.ev hn' hok (fun _ => rfl) c
theorem ExE.plain {Es : RF × Lo × St → Value → Shared → Prop} {t : Sem Flow} {o : Option (RF × Lo × St)} (h : Ex K w t o) : ExE Es K w t o := fun r e Q E k _ => h r e Q E k
theorem x_for (ok : Ok0) (D : Snd n V) (hn : n ≤ K.n) {t : Tg} {it : It} {body : List S} {p : Pos} (htg : t.ok K.kd = true) (hit : it.ok C0.P K.kd K.tq = true) (hb : okSS K body) (hpt : (!it.pairs || t.isTup) = true) (c : Conf K lo w) :
  Ex K w (exec (S.fors t it body p).toS K.env) (ob2 (itM (fun x H => V.ev x lo K.ce K.b H) it w.H) fun s H => turns (·.2.2) (fun v (a : RF × Lo × St) => ob2 (asgM t v a.2.1 K.ce K.b a.2.2) fun lo H =>
   obX (V.ex body lo K.ce K.b H) (fun lo H => some ((.nx, lo, H), true)) fun v lo H => some ((.rt v, lo, H), false)) s MAXT 0 (.nx, lo, H)) := fun r e Q E k =>
 for_gen (Es := fun _ _ _ => False) (EJ := fun _ _ _ _ => False) ok D.ev hn htg hit hpt (fun O w0 w2 lo1 _ _ _ c2 => ⟨ExE.plain (D.ex body K lo1 w2 hn hb c2), fun _ _ _ q => q.elim⟩) c r e Q E k fun _ _ q => q.elim
theorem x_one (D : Snd n V) (ok : Ok0) {st : S} (hok : st.ok C0.P K.kd K.tq = true) (hn : n + 1 ≤ K.n) (c : Conf K lo w) : Ex K w (exec st.toS K.env) (ex1 V st lo K.ce K.b w.H) := by
 have hn' := Nat.le_of_succ_le hn
 cases st with
 | asg t e p => exact x_asg D.ev hn' (and3 hok).1 (and3 hok).2.1 (and3 hok).2.2 c
 | asw ks tp xs vp p => exact x_asw D.ev hn' (and3 hok).1 (and3 hok).2.1 (and3 hok).2.2 c
 | asc k kp e p =>
  cases e <;> first | exact Ev.none | skip
  have h := and3 hok
  have h2 := and_split h.2.2
  have he := and3 h.2.1
  exact x_asc ok D.ev D.tv hn' h.1 h2.1 h2.2 he.1 he.2.1 he.2.2 c
 | aug k kp op e p => exact x_aug D.ev hn' (and_split hok).1 (and_split hok).2 c
 | seti o i sp e p =>
  have h := and_split hok
  have h3 := and3 h.1
  refine x_seti D.ev hn' h3.1 h3.2.1 h3.2.2 ?_ c
  cases e <;> first | rfl | (cases h.2; done) | cases h3.2.2
 | deli o i sp p => exact x_deli D.ev hn' (and_split hok).1 (and_split hok).2 c
 | ifs cc t e p => exact x_if D.tv D.ex hn' (and3 hok).1 (and3 hok).2.1 (and3 hok).2.2 c
 | fors t it body p => exact x_for ok D hn' (and3 (and_split hok).1).1 (and3 (and_split hok).1).2.1 (and3 (and_split hok).1).2.2 (and_split hok).2 c
 | whil cc body p => exact x_while D.tv D.ex hn' (and_split hok).1 (and_split hok).2 c
 | ret e p => exact x_ret D.ev hn' hok c
 | retn p => exact Op.some fun Q E q => wpAny_Return_none (q w (.ret .none) Le.refl ⟨rfl, c.F, rfl⟩)
 | asrt cc p => exact x_asrt D.tv hn' hok c
 | expm m o args ap cp p => exact x_exprO (D.ev (.mcall m o args ap cp) K lo w hn' hok c) rfl c
 | expc e p =>
  have h := and_split hok
  refine x_expr D.ev hn' h.1 ?_ c
  cases e <;> first | rfl | cases h.2
 | defn k ps body kd2 mo p =>
  have h := and3 hok
  have h' := and3 h.1
  exact x_defn ok (Nat.eq_of_beq_eq_true (and_split h'.1).1) (and_split h'.1).2 h'.2.1 h'.2.2 h.2.1 h.2.2 c
 | tryd d => cases hok
 | raw st => exact Ev.none
theorem ExE.seq {Es : RF × Lo × St → Value → Shared → Prop} {st : Stmt} {ss : List Stmt} {o : Option (RF × Lo × St)} {f : Lo → St → Option (RF × Lo × St)} (c : Conf K lo w) (h1 : ExE (fun r v s => (∃ u, r.1 = .rt u) ∧ Es r v s) K w (exec st K.env) o)
  (h2 : ∀ lo' w', Le K.b (some K.L) w w' → Conf K lo' w' → ExE (fun r v s => Es r v s) K w' (execs ss K.env) (f lo' w'.H)) : ExE Es K w (execs (st :: ss) K.env) (obX o f fun v lo H => some (.rt v, lo, H)) := by
 intro r ez Q E kont esc
 obtain ⟨⟨x1, lo1, H1⟩, e1, ez⟩ := obX_inv ez
 refine wpAny_execs_cons (h1 _ e1 _ _ (fun w1 fl l1 F1 => ?_) fun v s he => ?_)
 ·obtain ⟨eH, F1, q1⟩ := F1
  rcases ez with ⟨rfl, ez⟩ | ⟨u, rfl, ez⟩
  ·cases fl <;> try exact q1.elim
   exact h2 lo1 w1 l1 (c.upL l1 F1) r (eH ▸ ez) Q E (fun w2 fl l2 F2 => kont w2 fl (l1.trans l2) F2) esc
  ·cases fl <;> try exact q1.elim
   obtain rfl := sI1 ez
   exact kont w1 (.ret _) l1 ⟨eH, F1, q1⟩
 ·obtain ⟨⟨u, hu⟩, he⟩ := he
  rcases ez with ⟨q, ez⟩ | ⟨u, q, ez⟩
  ·cases q.symm.trans hu
  ·obtain rfl : x1 = .rt u := q
   obtain rfl := sI1 ez
   exact esc v s he
theorem ex_step (D : Snd n V) (ok : Ok0) : SndX (n + 1) (exS V) := by
 intro ss
 induction ss with
 | nil => exact fun K lo w hn _ c => Op.some fun Q E q => wpAny_execs_nil (q w .next Le.refl ⟨rfl, c.F, trivial⟩)
 | cons st ss ih => exact fun K lo w hn hok c r e Q E k => ExE.seq (Es := fun _ _ _ => False) c (ExE.plain (x_one D ok (and_split hok).1 hn c)) (fun lo' w' _ c' => ExE.plain (ih K lo' w' hn (and_split hok).2 c')) r e Q E k fun _ _ q => q.elim
theorem snd_lvl (ok : Ok0) : ∀ n, Snd n (lvl C0.P n)
 | 0 => ⟨fun _ _ _ _ _ _ _ => Ev.none, fun _ _ _ _ _ _ _ => Ev.none, fun _ _ _ _ _ _ _ => Op.none, fun _ _ _ _ _ _ _ _ _ _ _ _ _ _ _ _ _ _ _ => Ev.none, fun _ _ _ _ _ _ _ _ _ _ => Ev.none⟩
 | n + 1 => have D := snd_lvl ok n; ⟨ev_step D ok, tv_step D ok, ex_step D ok, cl_snd ok D.ex, vc_snd ok D.ev D.ex⟩
end
theorem Raise_classA {prog : Program} {w : World} {A : Around} {E : Value → Shared → Prop} {s : Shared} {env : Env} {X N I : String} {N' I' : String} {x : Str} {np pos : Pos} {Q : Flow → Shared → Prop} (hh : A.handled = none) (hc : ExcClass X N I) (hC : ExcCallFacts X N' I')
  (hself : isSubtype (.type X) (.type X) = pure true)
  (hx : wpAny (model prog w) A (eval (.Name x np) env) (fun v s₁ => v = .type X ∧ s₁ = s) E s)
  (h : ∀ h' e, Heap.MadeExc s.heap h' e X [] → E (.ref e) { s with heap := h' }) :
  wpAny (model prog w) A (exec (.Raise (some (.Name x np)) none pos) env) Q E s := by
 show wpAny (model prog w) A (do standAt pos; raiseStmt env (some (do let v ← eval (.Name x np) env; standAt pos; pure v)) none) Q E s
 refine wpAny_bind (wpAny_standAt ?_)
 unfold raiseStmt
 dsimp only
 refine wpAny_bind (wpAny_bind (wpAny_mono hx (fun v s₁ h₁ => wpAny_bind (wpAny_standAt (wpAny_pure ?_))) fun _ _ e => e))
 obtain ⟨rfl, hs₁⟩ := h₁
 subst s₁
 refine wpAny_bind (wpAny_pure ?_)
 dsimp only
 refine wpAny_bind (wpAny_holding ?_)
 unfold excFromValue isExcClass
 refine wpAny_bind (wpAny_bind (wpAny_pure ?_))
 simp only [if_true]
 rw [hc.base]
 refine wpAny_pure ?_
 simp only [if_true]
 obtain ⟨hp, g, d, tk, os⟩ := s
 refine wpAny_bind (wpAny_call_exc hC fun h' e hm => ?_)
 have hn := hm.newExc
 obtain ⟨ob, t, he, hcls, hd⟩ := hn.there
 have hT : ({ heap := h', gens := g, drawn := d, toks := tk, os := os } : Shared).TypeIs (.ref e) X := ⟨ob, he, hcls⟩
 refine wpAny_bind (wpAny_isInstance hT hc.base ?_)
 simp only [Bool.not_true, Bool.false_eq_true, if_false]
 refine wpAny_pure ?_
 first | (refine wpAny_bind (m := isType (.type X)) (wpAny_pure ?_)) | (refine wpAny_bind (wpAny_pure ?_))
 first | (rw [if_pos rfl]) | (simp only [if_true]) | dsimp only
 refine wpAny_bind (wpAny_holding ?_)
 unfold raisedFor
 first | (simp only [Bool.false_eq_true, if_false]) | (rw [if_neg (by decide)]) | skip
 first | (refine wpAny_bind (wpAny_typeOf hT ?_)) | (refine wpAny_bind ?_; refine wpAny_bind (wpAny_typeOf hT ?_))
 refine wpAny_bind (call_issubclass (issubclass_self hc hself) ?_)
 first | (refine wpAny_bind (wpAny_truthy_bool ?_)) | (refine wpAny_truthy_bool ?_) | (dsimp only [wants]; first | (refine wpAny_bind (wpAny_truthy_bool ?_)) | (refine wpAny_truthy_bool ?_))
 first | (rw [if_pos rfl]) | (simp only [if_true]) | skip
 refine wpAny_pure ?_
 unfold setFlight raiseNew
 refine wpAny_bind (wpAny_bind (wpAny_field (i := 1) (x := Value.none) he hd rfl ?_))
 rw [if_neg (by decide)]
 refine wpAny_pure (wpAny_bind (wpAny_handled ?_))
 rw [hh]
 first
  | exact wpAny_throw (h h' e hm)
  | exact wpAny_bind (wpAny_pure (wpAny_throw (h h' e hm)))
section
variable {A : Around} {b n : Nat} {w w' w2 : Ws} {K : Kn} {lo : Lo} {V : Lvl} {L : Addr} {U U' : Addr → Prop} {ρ : List Addr} {H : St} {h h' : Heap} {fr : List Addr}
theorem LOk.up {Lz : Option Addr} (O : LOk w.ρ L) {o : Obj} (hl : w.s.heap.get? L = some o) (l : Le b Lz w w') : LOk w'.ρ L :=
 ⟨O.base, fun i e => (Nat.lt_or_ge i w.ρ.length).elim (fun hi => O.apart i (l.p.X.old hi e)) fun hi => (nomatch (l.p.N i L hi e).symm.trans hl), O.tab⟩
theorem frames_keep {base h h' : Heap} : ∀ {l : List Env}, h.FunFrames base l → (∀ a ∈ l.filterMap (·.frame), ∀ o, h.get? a = some o → h'.get? a = some o) → h'.FunFrames base l
 | [], _, _ => trivial
 | e :: l, hl, k => by
  obtain ⟨hk, ⟨L, o, hf, hn, ho, hd⟩, hr⟩ := hl
  refine ⟨hk, ⟨L, o, hf, hn, k L (by rw [List.filterMap_cons, hf]; exact .head _) o ho, hd⟩, frames_keep hr fun a m => k a ?_⟩
  rw [List.filterMap_cons, hf]; exact .tail _ m
theorem nm43 : ("ZeroDivisionError" : Str) = nm 43 := by decide +kernel
theorem Mv.dicts (hns : ∀ a ∈ fr, ∃ m, h.Ns a m) (kp : Kp fr h h') : Mv U U ρ ρ h h' :=
 have no : ∀ a o, h.get? a = some o → (∀ es n, o.data ≠ .dict es n) → h'.get? a = some o := fun a o e f => kp a o (fun m => (hns a m).elim fun _ q => q.elim fun o' q => q.elim fun es q => q.elim fun ep q => f es ep (Option.some.inj (q.1.symm.trans e) ▸ q.2.1)) e
 ⟨Ext.refl, fun _ _ _ e z => ⟨no _ _ e fun _ _ q => (nomatch q), z⟩, fun _ _ e => no _ _ e fun _ _ q => (nomatch q), fun _ _ _ _ _ _ _ e => no _ _ e fun _ _ q => (nomatch q), fun v q => by
  rintro ⟨c, o, vs, t, e0, e, hd, hv⟩ _
  exact ⟨c, o, vs, t, e0, no c o e (fun _ _ q => nomatch hd.symm.trans q), hd, hv⟩⟩
theorem SRel.dicts (S : SRel U ρ H h) (hns : ∀ a ∈ fr, ∃ m, h.Ns a m) (hLO : ∀ a ∈ fr, LOk ρ a) (kp : Kp fr h h') (al : ∀ a ∈ fr, ∀ o, h.get? a = some o → ∃ o', h'.get? a = some o') : SRel U ρ H h' :=
 S.move (Mv.dicts hns kp) (fun a o e => kp a o fun m => nomatch (hLO a m).base.symm.trans e) (fun i a o e => kp a o fun m => (hLO a m).apart i e) (fun x hx o => kp _ o fun m => (hLO _ m).tab ⟨x, hx, rfl⟩)
  fun a ha => let ⟨o, e⟩ := S.hid a ha; (Classical.em (a ∈ fr)).elim (fun m => al a m o e) fun m => ⟨o, kp a o m e⟩
theorem SRel.bare (S : SRel U ρ H h) (hU : ∀ a, U' a → U a) : SRel U' ρ H h ∧ Mv U U' ρ ρ h h :=
 have m : Mv U U' ρ ρ h h := ⟨Ext.refl, fun _ _ _ e z => ⟨e, fun q => z (hU _ q)⟩, fun _ _ e => e, fun _ _ _ _ _ _ _ e => e, fun _ _ e _ => e⟩
 ⟨S.move m (fun _ _ _ e => e) (fun _ _ _ _ e => e) (fun _ _ _ e => e) fun a q => S.hid a (hU a q), m⟩
theorem call_pre (ok : Ok0) (I : SndE n V.ev) (hn : n ≤ K.n) {f : Nat} {fn : Fn} {fa : Addr} {o : Obj} {fd : FuncData} (F : FnAt f fn fa o fd) {a1 a2 : X} {np cp : Pos} (hg : isG K.kd fn.nmk = true) (ha : okXs K [a1, a2]) (c : Conf K lo w) {x y : Int} {H1 : St} (e1 : evs (fun x H => V.ev x lo K.ce K.b H) [a1, a2] w.H = some ([.int x, .int y], H1))
  (Q E : Value → Shared → Prop) (k : ∀ w1 t u, Le K.b none w w1 → w1.H = H1 → wpAny M0 K.A (call (.ref fa) [.int x t, .int y u] []) Q E w1.s) : wpAny M0 K.A (eval (.Call (.Name (nm fn.nmk) np) [a1.toE, a2.toE] [] cp) K.env) Q E w.s := by
 show wpAny _ _ (do callWith cp (← eval (.Name (nm fn.nmk) np) K.env) [] (backTo cp (starEach (toEs [a1, a2]) K.env)) (backToKw cp (keywordEach (toKs []) K.env))) Q E w.s
 rw [back_args K.env cp [a1, a2] ha, back_kws]
 refine wpAny_bind (wpAny_Name (glb_load ok hg (.inl F.name) _ _ ?_) (nm_debug _))
 refine callWith_function_kw (o := o) (fd := fd) (evalArgs_all (kw := []) (args_snd I hn ha c _ e1 _ E fun w1 vals l1 r1 => wpAny_evalAll_nil ⟨⟨w1.S.base _ _ F.at_, F.data⟩, ?_⟩))
 obtain ⟨eH, v1, vs, rfl, ⟨t, rfl⟩, v2, vs, rfl, ⟨u, rfl⟩, rfl⟩ := r1
 exact k w1 t u l1 eH
noncomputable def c5 : X := .cmp (.var 10 ⟨96,7,96,8⟩) .Eq (.cst (.int 0) (.int 0) ⟨96,12,96,13⟩) ⟨96,7,96,13⟩
theorem div0_raises (ok : Ok0) {fa : Addr} {o : Obj} {fd : FuncData} (F : FnAt 5 f5 fa o fd) (R : Rm A 6) {x : Int} {t u : Tok} {outer : List Env} {base0 : Heap} (hfr : A.frames = some outer) (hl : w.s.heap.FunFrames base0 outer) (hO : ∀ a ∈ outer.filterMap (·.frame), LOk w.ρ a) (Q E : Value → Shared → Prop)
  (k : ∀ w2 h' e t0 L5, Le b none w w2 → w2.H = w.H → w.s.heap.get? L5 = none → LOk w2.ρ L5 → (∃ m, w2.s.heap.Ns L5 m) → Heap.FlyingW (hideAll w2.s.heap (L5 :: outer.filterMap (·.frame))) outer e (.type "ZeroDivisionError") (.ref t0) h' → h'.TupAt t0 [] → w2.s.heap.get? t0 = none → w2.s.heap.get? e = none → w2.s.heap.UpToSlots h' → E (.ref e) { w2.s with heap := h' }) :
  wpAny M0 A (call (.ref fa) [.int x t, .int 0 u] []) Q E w.s := by
 have hf : nth C0.P 5 = some f5 := by rw [ok.P]; rfl
 have N : NewF 5 f5.kd (tqOf 5) [] b b w fd.code (fd.qualname ++ ".<locals>.") fd.closure A := ⟨R, Nat.le_refl b, by decide +kernel, (fun k i e => nomatch e), (fun k i e => nomatch e), (fun k m => nomatch List.all_eq_true.mp (by decide +kernel : noFre f5.kd = true) _ m), F.tab⟩
 obtain ⟨bvals, B, r, hbk⟩ := bind_snd (w := w) (xs := [.int x, .int 0]) (vs := [.int x t, .int 0 u]) (ks := []) (kvals := []) ok hf F ⟨_, _, rfl, VR.int, _, _, rfl, VR.int, rfl⟩ rfl [(9, .int x), (10, .int 0)] rfl
 refine frame_snd (γ := Unit) (β := Unit) (R2 := fun _ _ _ => False) (T := fun _ E' => E' = E → wpAny M0 A (call (.ref fa) [.int x t, .int 0 u] []) Q E' w.s) (A1 := A.in1) (mo := f5.mo) (fa := fa) (f := fun lo H => @ite _ ((lvl C0.P 5).tv c5 lo [] b H = some (true, w.H)) (Classical.propDecidable _) (some ()) none) N hbk r
  (G := fun env s _ E' => E' = E → s.heap.NoLimit ∧ codeAny M0 A (.func (toSs f5.body) env) (fun r s' => match r with | .ok (.ret v) => Q v s' | .ok _ => False | .error e => E e s') s) (fun _ E' h hE => ?_) (fun cells L w1 lo l1 hL c1 z ez _ E' _ hE => ⟨ok.limit w1, codeAny_func ?_⟩) () (if_pos rfl) (fun _ _ => True) E (fun _ _ _ q => q.elim) rfl
 ·refine wpAny_call (codeAny_call_function N.R.depth (w.S.base _ _ F.at_) F.data (by rw [F.scope]; rfl) (by rw [F.scope]; rfl) F.body (F.code.keeps w.S.base) (B _ _ _ _ ?_))
  rw [F.scope, F.globals, F.builtins]
  subst hE
  exact wpAny_mono h (fun _ _ g => g rfl) fun _ _ e => e
 show wpAny _ _ (execs [.If c5.toE [.Raise (some (.Name "ZeroDivisionError" ⟨97, 14, 97, 31⟩)) none ⟨97, 8, 97, 31⟩] _ _] (newF N f5.mo cells (some fa) L).env) _ _ w1.s
 have htv : (lvl C0.P 5).tv c5 lo [] b w1.H = some (true, w.H) := by
  split at ez
  ·assumption
  ·cases ez
 refine wpAny_execs_cons (wpAny_If ((snd_lvl ok 5).tv c5 (newF N f5.mo cells (some fa) L) lo w1 (Nat.le_refl 5) rfl c1 (true, w.H) htv _ _ fun w2 tb l2 r2 => ?_))
 obtain ⟨eH, rfl⟩ := r2
 rw [if_pos rfl]
 have c2 := c1.up l2
 have lg := l1.trans l2
 rw [nm43]
 refine wpAny_execs_cons (Raise_classA (X := "ZeroDivisionError") (newF N f5.mo cells (some fa) L).R.hd excClass_ZeroDivisionError PySem.F.excCall_ZeroDivisionError (by rw [isSubtype_type]; kernel_rfl) (wpAny_Name (glb_load ok (K := newF N f5.mo cells (some fa) L) rfl (.inr (ok.bl 43 (.type "ZeroDivisionError") (by simp))) _ _ ⟨rfl, rfl⟩) (nm_debug _)) fun h3 e hm => ?_)
 obtain ⟨t0, he, ht0, htup⟩ := hm.there
 obtain ⟨mm, ns, _⟩ := c2.F
 have hall : h3.FunFrames (hideAll w2.s.heap (L :: outer.filterMap (·.frame))) ((newF N f5.mo cells (some fa) L).env :: outer) := .cons (by rw [(newF N f5.mo cells (some fa) L).kind]; decide) rfl (ns_at ns fun o e => hm.keeps _ _ e) (hideAll_none _ (.head _))
  (frames_keep (funFrames_hide (frames_keep hl fun a m o e => lg.p.E.keep a o e (fun i _ => (hO a m).apart i) (hO a m).tab fun q => nomatch q) fun env' he a hfa => .tail _ (List.mem_filterMap.mpr ⟨env', he, hfa⟩)) fun a m o e => hm.keeps _ _ e)
 have hen : (hideAll w2.s.heap (L :: outer.filterMap (·.frame))).get? e = none := by
  cases q : (hideAll w2.s.heap (L :: outer.filterMap (·.frame))).get? e with
  | none => rfl
  | some o => exact nomatch hm.new.symm.trans (of_hideAll _ q)
 refine wpAny_leaving_firstW (a0 := .ref t0) (s := { w2.s with heap := h3 }) (Around.frames_deeper hfr) hall rfl he (fun b o hb => hm.keeps b o (of_hideAll _ hb)) hen rfl rfl rfl fun h' hLf => ?_
 obtain ⟨k1, ⟨_, _, k2⟩, k3, k4⟩ := hLf
 exact k w2 h' e t0 L lg eH hL c2.O ⟨mm, ns⟩ ⟨k1, hen, k2, k3⟩ (Heap.TupAt.of_slots ⟨_, _, htup, rfl, rfl⟩ k4) ht0 hm.new ((Heap.UpToSlots.of_keeps hm.keeps).trans k4)
end
section
variable {A : Around} {b n : Nat} {w w' w2 : Ws} {K : Kn} {lo : Lo} {V : Lvl} {L : Addr}
theorem zde_exc : isSubtype (.type "ZeroDivisionError") (.type "BaseException") = pure true := by rw [isSubtype_type]; kernel_rfl
theorem zde_self : isSubtype (.type "ZeroDivisionError") (.type "ZeroDivisionError") = pure true := by rw [isSubtype_type]; kernel_rfl
theorem zde_tup : isSubtype (.type ((Manifest.find? "ZeroDivisionError").elim "type" fun x => x.metatype)) (.type "tuple") = pure false := by
 rw [isSubtype_type]; kernel_rfl
structure Aft (w : Ws) (L : Addr) (fr : List Addr) (u1 u2 : AV) (h9 : Heap) (T : Addr) : Prop where
 S : SRel w.U w.ρ w.H h9
 kp : Kp fr w.s.heap h9
 fr : ∀ a ∈ fr, a ≠ L → ∀ o, w.s.heap.get? a = some o → ∃ sl, h9.get? a = some { o with slots := sl }
 r : ∃ val1 val2 tok m, VRel w.U w.ρ h9 u1 val1 ∧ VRel w.U w.ρ h9 u2 val2 ∧ h9.get? T = some { cls := .type "tuple", data := .seq #[val1, val2, .str (toS []) tok] m }
 new : w.s.heap.get? T = none
noncomputable def Ws.dic {hx : Heap} {fr : List Addr} (w : Ws) (hns : ∀ a ∈ fr, ∃ m, w.s.heap.Ns a m) (hLO : ∀ a ∈ fr, LOk w.ρ a) (kp : Kp fr w.s.heap hx) (al : ∀ a ∈ fr, ∀ o, w.s.heap.get? a = some o → ∃ o', hx.get? a = some o') (tk : Nat) (ht : 0 < tk) : Ws := ⟨w.U, w.ρ, w.H, { w.s with heap := hx, toks := tk }, w.S.dicts hns hLO kp al, ht⟩
theorem caught_snd (ok : Ok0) {outer : List Env} {e t0 : Addr} {h' : Heap} {fr : List Addr} {k1 k2 en : Nat} {u1 u2 : AV} {p1 p2 zp hp rt tt sf sa sc : Pos} (hu : K.A.units + 2 < cLine) (c : Conf K lo w) (hframe : K.env.frame = some K.L) (hfr : K.A.frames = some (K.env :: outer))
  (hLfr : K.L ∈ fr) (hns : ∀ a ∈ fr, ∃ m, w.s.heap.Ns a m) (hLO : ∀ a ∈ fr, LOk w.ρ a) (hfl : Heap.FlyingW (hideAll w.s.heap fr) (K.env :: outer) e (.type "ZeroDivisionError") (.ref t0) h') (htup : h'.TupAt t0 []) (ht0 : w.s.heap.get? t0 = none) (he0 : w.s.heap.get? e = none) (hup : w.s.heap.UpToSlots h')
  (hk1 : isLoc K.kd k1 = true) (hk2 : isLoc K.kd k2 = true) (hken : isLoc K.kd en = true) (n1 : k1 ≠ en) (n2 : k2 ≠ en) (hu1 : lkp k1 lo = some u1) (hu2 : lkp k2 lo = some u2) (hg43 : isG K.kd 43 = true) (hg93 : isG K.kd 93 = true) (Q : Flow → Shared → Prop) (E : Value → Shared → Prop)
  (hesc : ∀ h9 T tk, Aft w K.L fr u1 u2 h9 T → Q (.ret (.ref T)) { w.s with heap := h9, toks := tk }) :
  wpAny M0 K.A (noteFrame (.ref e) K.env) (fun _ s₂ => wpAny M0 K.A (setFlight (.ref e) none) (fun _ s₃ =>
   wpAny M0 K.A (handleBy (.ref e) K.env [.ExceptHandler (some (.Name (nm 43) zp)) (some (nm en)) [.Return (some (.Tuple [.Name (nm k1) p1, .Name (nm k2) p2, .Call (.Name (nm 93) sf) [.Name (nm en) sa] [] sc] 0 tt)) rt] hp]) Q E s₃) E s₂) E { w.s with heap := h' } := by
 obtain ⟨mm, ns, rel⟩ := c.F
 have dictNF : ∀ a o, a ∈ fr → w.s.heap.get? a = some o → ∀ vs, o.data ≠ .fields vs := fun a o m e vs q => by
  obtain ⟨_, o', es, ep, e', hd, _⟩ := hns a m
  rw [Option.some.inj (e.symm.trans e'), hd] at q
  cases q
 have hgL : ∃ oL, w.s.heap.get? K.L = some oL := by obtain ⟨o, _, _, e', _⟩ := ns; exact ⟨o, e'⟩
 obtain ⟨oL, hgL⟩ := hgL
 refine wpAny_looks_onW hfr hframe hfl fun h4 hheld hsm4 => ?_
 refine wpAny_landsW hheld fun h5 hfl5 hsm5 => ?_
 have up5 : w.s.heap.UpToSlots h5 := (hup.trans hsm4).trans hsm5
 have kp5 : Kp fr w.s.heap h5 := fun a o m e => hfl5.1 a o (hideAll_get _ e m)
 obtain ⟨ob, hob, hobc⟩ := hfl5.there
 refine wpAny_handleBy_builtin_as (X := "ZeroDivisionError") (T := "ZeroDivisionError") (b := true) zde_exc zde_tup zde_self (wpAny_Name (glb_load ok (w := w.dic hns hLO kp5 (fun a m o e => (up5 a o e (dictNF a o m e)).imp' _ fun _ q => q) w.s.toks w.t) hg43 (.inr (ok.bl 43 (.type "ZeroDivisionError") (by simp))) _ _ ⟨rfl, ⟨ob, hob, hobc⟩, ?_⟩) (nm_debug _))
 rw [if_pos rfl]
 refine lands_againW (s := { w.s with heap := h5 }) hfl5 fun h6 hfl6 hsm6 => ?_
 have up6 : w.s.heap.UpToSlots h6 := up5.trans hsm6
 have eL := K.eL
 have ns6 : h6.Ns K.env.locals mm := by rw [eL]; exact up6.ns ns
 have hpp : (K.env.scope.kind == .class || (K.env.scope.kind == .module && K.env.locals != K.env.globals)) = false := by rw [K.kind]; rfl
 refine wpAny_storeName_local (s := { w.s with heap := h6 }) (K.loc en hken) ns6 (fun h7 hn7 hs7 => ?_) hpp
 rw [eL] at hn7 hs7
 have kp7 : Kp fr w.s.heap h7 := fun a o m e => (hs7.2 a (fun q => m (by rw [q]; exact hLfr))).trans (hfl6.1 a o (hideAll_get _ e m))
 have fr7 : ∀ a ∈ fr, a ≠ K.L → ∀ o, w.s.heap.get? a = some o → ∃ sl, h7.get? a = some { o with slots := sl } := fun a m q o e => (up6 a o e (dictNF a o m e)).imp fun _ q' => (hs7.2 a q).trans q'
 have al : ∀ {hx : Heap} {mx : Str → Option Value}, hx.Ns K.L mx → (∀ a ∈ fr, a ≠ K.L → ∀ o, w.s.heap.get? a = some o → ∃ sl, hx.get? a = some { o with slots := sl }) → ∀ a ∈ fr, ∀ o, w.s.heap.get? a = some o → ∃ o', hx.get? a = some o' := fun hn f a m o e => (Classical.em (a = K.L)).elim (fun q => hn.elim fun o' q' => q'.elim fun _ q' => q'.elim fun _ q' => ⟨o', q ▸ q'.1⟩) fun q => (f a m q o e).elim fun _ q' => ⟨_, q'⟩
 obtain ⟨val1, hv1, rv1⟩ := rel k1 u1 hu1
 obtain ⟨val2, hv2, rv2⟩ := rel k2 u2 hu2
 have ld : ∀ {k : Nat} {val : Value}, isLoc K.kd k = true → k ≠ en → mm (nm k) = some val → ∀ (Q' E' : Value → Shared → Prop), Q' val { w.s with heap := h7, toks := w.s.toks + 1 } → wpAny M0 (K.A.mark (some (.ref e))) (loadName K.env (nm k)) Q' E' { w.s with heap := h7, toks := w.s.toks + 1 } := fun {k val} hk hne hm Q' E' q => by
  refine wpAny_loadName_local K.kind (K.loc k hk) (by rw [eL]; exact hn7) ?_ q
  show (if nm k = nm en then _ else mm (nm k)) = some val
  rw [if_neg (fun q => hne (nm_inj q))]; exact hm
 have eLne : e ≠ K.L := fun q => nomatch (q ▸ he0).symm.trans hgL
 have tLne : t0 ≠ K.L := fun q => nomatch (q ▸ ht0).symm.trans hgL
 obtain ⟨oe, evs_, hoe, hoc, hod, ho0⟩ := hfl6.first
 have hx7 : h7.ExcAt e "ZeroDivisionError" (.ref t0) := ⟨oe, evs_, (hs7.2 e eLne).trans hoe, hoc, hod, ho0⟩
 have htup7 : h7.TupAt t0 [] := by
  obtain ⟨o, m, q1, q2, q3⟩ := htup.of_slots ((hsm4.trans hsm5).trans hsm6)
  exact ⟨o, m, (hs7.2 t0 tLne).trans q1, q2, q3⟩
 refine wpAny_execs_cons (wpAny_Return_some (wpAny_Tuple_spliced ?_))
 show wpAny _ _ (spliced [(false, eval (.Name (nm k1) p1) K.env), (false, eval (.Name (nm k2) p2) K.env), (false, eval (.Call (.Name (nm 93) sf) [.Name (nm en) sa] [] sc) K.env)]) _ _ _
 refine Calls.spliced_cons (wpAny_Name (ld hk1 n1 hv1 _ _ ?_) (nm_debug _))
 refine Calls.spliced_cons (wpAny_Name (ld hk2 n2 hv2 _ _ ?_) (nm_debug _))
 refine Calls.spliced_cons ?_
 show wpAny _ _ (do callWith sc (← eval (.Name (nm 93) sf) K.env) [] (backTo sc (starEach [.Name (nm en) sa] K.env)) (backToKw sc (keywordEach [] K.env))) _ _ _
 refine wpAny_bind (wpAny_Name (glb_load ok (w := w.dic hns hLO kp7 (al hn7 fr7) (w.s.toks + 1) (Nat.succ_pos _)) hg93 (.inr (ok.bl 93 (.type "str") (by simp))) _ _ ?_) (nm_debug _))
 show wpAny _ _ (callWith sc (.type "str") [] [(false, eval (.Name (nm en) sa) K.env)] []) _ _ _
 refine callWith_type1 (wpAny_Name (wpAny_loadName_local (v := .ref e) K.kind (K.loc en hken) (by rw [eL]; exact hn7) (by show (if nm en = nm en then _ else _) = _; rw [if_pos rfl]) ?_) (nm_debug _))
 refine P.str_of_exc_none (s := { w.s with heap := h7, toks := w.s.toks + 1 }) (e := e) (t0 := t0) PySem.F.excStr_ZeroDivisionError (show (K.A.mark (some (.ref e))).units + 2 < cLine from hu) hx7 htup7 ?_
 refine Calls.spliced_nil ⟨by rw [sizeLine_is]; show 3 ≤ 16777216; decide, ?_⟩
 have ns8 := ns_at (h' := h7.push { cls := .type "tuple", data := .seq (List.toArray [val1, val2, Value.str Str.empty (w.s.toks + 1)]) }) hn7 fun o e => Heap.get?_push_of_some _ e
 rw [← eL] at ns8
 refine wpAny_nameGoes_keeps (K.loc en hken) ns8 hpp fun h9 w9 hn9 hs9 => ?_
 rw [eL] at hn9 hs9
 have kp9 : Kp fr w.s.heap h9 := fun a o m e => (hs9.2 a (fun q => m (by rw [q]; exact hLfr))).trans (Heap.get?_push_of_some _ (kp7 a o m e))
 have fr9 : ∀ a ∈ fr, a ≠ K.L → ∀ o, w.s.heap.get? a = some o → ∃ sl, h9.get? a = some { o with slots := sl } := fun a m q o e => (fr7 a m q o e).imp fun _ q' => (hs9.2 a q).trans (Heap.get?_push_of_some _ q')
 have al9 := al hn9 fr9
 have hgT : w.s.heap.get? h7.objs.size = none := by
  cases q : w.s.heap.get? h7.objs.size with
  | none => rfl
  | some o => exact (Classical.em (h7.objs.size ∈ fr)).elim (fun m => (al hn7 fr7 _ m o q).elim fun _ e' => absurd (Heap.lt_size e') (Nat.lt_irrefl _)) fun m => absurd (Heap.lt_size (kp7 _ o m q)) (Nat.lt_irrefl _)
 have mv : Mv w.U w.U w.ρ w.ρ w.s.heap h9 := Mv.dicts hns kp9
 exact hesc h9 h7.objs.size _ ⟨w.S.dicts hns hLO kp9 al9, kp9, fr9, ⟨val1, val2, w.s.toks + 1, 0, VRel.map mv rv1, VRel.map mv rv2, (hs9.2 _ fun q => nomatch (q ▸ hgT).symm.trans hgL).trans (Heap.get?_push_size _ rfl)⟩, hgT⟩
end
section
variable {A : Around} {b n : Nat} {w w' w1 w2 : Ws} {K : Kn} {lo : Lo} {V : Lvl} {L : Addr} {outer : List Env}
noncomputable def TD.ok (P : List Fn) (kd : List (Nat × K3)) (tq : Nat) (d : TD) : Bool := d.a.ok P kd tq && (d.b.ok P kd tq && (isLoc kd d.q.1 && (isLoc kd d.r.1 && (isLoc kd d.en && (isG kd 42 && (isG kd 43 && (isG kd 93 && (Nat.beq d.f 5 && (Nat.beq d.k 42 &&
 (match d.e1, d.e2 with
 | .var k1 _, .var k2 _ => isLoc kd k1 && (isLoc kd k2 && (!Nat.beq k1 d.en && !Nat.beq k2 d.en))
 | _, _ => false))))))))))
noncomputable def frs (outer : List Env) : List Addr := outer.filterMap (·.frame)
structure Bel (w : Ws) (L : Addr) (env : Env) (outer : List Env) : Prop where
 fr : env.frame = some L
 hl : ∃ base, w.s.heap.FunFrames base (env :: outer)
 ne : ∀ a ∈ frs outer, a ≠ L
 O : ∀ a ∈ frs outer, LOk w.ρ a
 ns : ∀ a ∈ frs outer, ∃ m, w.s.heap.Ns a m
theorem ns_alive {h : Heap} {a : Addr} (q : ∃ m, h.Ns a m) : ∃ o, h.get? a = some o := q.elim fun _ q => q.imp fun _ q => q.elim fun _ q => q.elim fun _ q => q.1
theorem Bel.kept {Lz : Option Addr} (B : Bel w L K.env outer) (l : Le b Lz w w') (hz : ∀ a, Lz = some a → a = L) : ∀ a ∈ frs outer, ∀ o, w.s.heap.get? a = some o → w'.s.heap.get? a = some o :=
 fun a m o e => l.p.E.keep a o e (fun i _ => (B.O a m).apart i) (B.O a m).tab fun q => B.ne a m (hz a q)
theorem Bel.le {Lz : Option Addr} (B : Bel w L K.env outer) (l : Le b Lz w w') (hz : ∀ a, Lz = some a → a = L) (hL : ∃ m, w'.s.heap.Ns L m) : Bel w' L K.env outer := by
 refine ⟨B.fr, ?_, B.ne, fun a m => (ns_alive (B.ns a m)).elim fun _ e => (B.O a m).up e l, fun a m => (B.ns a m).imp fun _ q => ns_at q (B.kept l hz a m)⟩
 obtain ⟨base, hk0, ⟨L', o, hf, hn, ho, hdd⟩, hlr⟩ := B.hl
 obtain rfl : L = L' := Option.some.inj (B.fr.symm.trans hf)
 obtain ⟨mm, ns⟩ := hL
 exact ⟨base, .cons hk0 B.fr ns hn (frames_keep hlr (B.kept l hz))⟩
structure Escs (b : Nat) (L : Addr) (outer : List Env) (w : Ws) (r : RF × Lo × St) (v : Value) (s : Shared) (u1 u2 : AV) (w2 : Ws) (h9 : Heap) (T : Addr) (tk : Nat) (fr : List Addr) : Prop where
 er : r.1 = .rt (.tup [u1, u2, .str []])
 l : Le b (some L) w w2
 H : w2.H = r.2.2
 a : Aft w2 L fr u1 u2 h9 T
 ff : ∀ a ∈ fr, (∃ o, w.s.heap.get? a = some o) → a = L ∨ a ∈ frs outer
 sub : ∀ a ∈ frs outer, a ∈ fr
 v : v = .ref T
 s : s = { w.s with heap := h9, toks := tk }
noncomputable def Esc (b : Nat) (L : Addr) (outer : List Env) (w : Ws) (r : RF × Lo × St) (v : Value) (s : Shared) : Prop := ∃ u1 u2 w2 h9 T tk fr, Escs b L outer w r v s u1 u2 w2 h9 T tk fr
theorem Esc.rt {r : RF × Lo × St} {v : Value} {s : Shared} (e : Esc b L outer w r v s) : ∃ u, r.1 = .rt u := e.elim fun _ e => e.elim fun _ e => e.elim fun _ e => e.elim fun _ e => e.elim fun _ e => e.elim fun _ e => e.elim fun _ e => ⟨_, e.er⟩
theorem Esc.le {r : RF × Lo × St} {v : Value} {s : Shared} (l : Le b (some L) w w1) (e : Esc b L outer w1 r v s) : Esc b L outer w r v s := by
 obtain ⟨u1, u2, w2, h9, T, tk, fr, e⟩ := e
 exact ⟨u1, u2, w2, h9, T, tk, fr, e.er, l.trans e.l, e.H, e.a, fun a m q => e.ff a m (q.elim fun o q => l.p.E.alive a o q), e.sub, e.v, by rw [e.s, l.s]⟩
theorem Esc.lp {r : RF × Lo × St} {v : Value} {s : Shared} {O : List Addr} {w0 : Ws} (l : Lg b (some L) w0 w1 O) (sf : Softs w1.s.heap O) (e : Esc b L outer w1 r v s) : Esc b L outer w0 r v s := by
 obtain ⟨u1, u2, w2, h9, T, tk, fr, e⟩ := e
 have l2 := l.le e.l sf
 obtain ⟨w3, l3, eH, es, eρ, mv⟩ := l2.close (h' := w2.s.heap) (fun a m => (sf a m).imp fun o q => ⟨l.own.kept e.l.p.E (fun a m z => l.LO a z m) a m o q.1, q.2⟩) fun _ _ _ e => e
 have hU : ∀ a, w3.U a → w2.U a := fun a q => l2.U.symm ▸ .inl (l3.u ▸ q)
 obtain ⟨S9, m9⟩ := e.a.S.bare hU
 obtain ⟨v1, v2, tok, m, r1, r2, eT⟩ := e.a.r
 refine ⟨u1, u2, w3, h9, T, tk, fr, e.er, l3, eH.trans e.H, ⟨eρ ▸ eH ▸ S9, by rw [es]; exact e.a.kp, by rw [es]; exact e.a.fr, ⟨v1, v2, tok, m, eρ ▸ r1.map m9, eρ ▸ r2.map m9, eT⟩, by rw [es]; exact e.a.new⟩, fun a m q => e.ff a m (q.elim fun o q => l.p.E.alive a o q), e.sub, e.v, by rw [e.s, l.s]⟩
theorem var_loc {m : Nat} {k : Nat} {p : Pos} (hk : isLoc K.kd k = true) {H : St} : Op (fun r => lkp k lo = some r.1 ∧ r.2 = H) ((lvl C0.P (m + 1)).ev (.var k p) lo K.ce K.b H) := by
 show Op _ (ob1 (varM k lo K.ce H) fun v => some (v, H))
 unfold varM
 rw [notCe hk]
 exact Op.ob1 fun v e => Op.some ⟨e, rfl⟩
theorem evs_two {f : X → St → Option (AV × St)} {x y : X} {u v : AV} {H H1 H2 : St} (e1 : f x H = some (u, H1)) (e2 : f y H1 = some (v, H2)) : evs f [x, y] H = some ([u, v], H2) := by
 show ob2 (f x H) _ = _
 rw [e1]
 show ob2 (ob2 (f y H1) _) _ = _
 rw [e2]; rfl
theorem asI_inv {γ : Type} {u : AV} {f : Int → Option γ} {r : γ} (h : asI u f = some r) : ∃ i, u = .int i ∧ f i = some r := by
 cases u <;> first | (cases h; done) | exact ⟨_, rfl, h⟩
theorem cond_inv {γ : Type} {c : Bool} {a b : Option γ} {r : γ} (h : cond c a b = some r) : (c = true ∧ a = some r) ∨ (c = false ∧ b = some r) := by
 cases c with
 | true => exact .inl ⟨rfl, h⟩
 | false => exact .inr ⟨rfl, h⟩
structure TOk (K : Kn) (d : TD) : Prop where
 a : okX K d.a
 b : okX K d.b
 q : isLoc K.kd d.q.1 = true
 r : isLoc K.kd d.r.1 = true
 en : isLoc K.kd d.en = true
 g42 : isG K.kd 42 = true
 g43 : isG K.kd 43 = true
 g93 : isG K.kd 93 = true
 f : d.f = 5
 k : d.k = 42
 e : ∃ k1 p1 k2 p2, d.e1 = .var k1 p1 ∧ d.e2 = .var k2 p2 ∧ isLoc K.kd k1 = true ∧ isLoc K.kd k2 = true ∧ k1 ≠ d.en ∧ k2 ≠ d.en
theorem tok_of {d : TD} (h : d.ok C0.P K.kd K.tq = true) : TOk K d := by
 obtain ⟨h1, h⟩ := and_split h
 obtain ⟨h2, h⟩ := and_split h
 obtain ⟨h3, h⟩ := and_split h
 obtain ⟨h4, h⟩ := and_split h
 obtain ⟨h5, h⟩ := and_split h
 obtain ⟨h6, h⟩ := and_split h
 obtain ⟨h7, h⟩ := and_split h
 obtain ⟨h8, h⟩ := and_split h
 obtain ⟨h9, h⟩ := and_split h
 obtain ⟨h10, h⟩ := and_split h
 refine ⟨h1, h2, h3, h4, h5, h6, h7, h8, Nat.eq_of_beq_eq_true h9, Nat.eq_of_beq_eq_true h10, ?_⟩
 split at h
 ·rename_i k1 p1 k2 p2 e1 e2
  obtain ⟨a1, h⟩ := and_split h
  obtain ⟨a2, h⟩ := and_split h
  obtain ⟨a3, a4⟩ := and_split h
  exact ⟨k1, p1, k2, p2, e1, e2, a1, a2, (fun q => by rw [q, Nat.beq_refl] at a3; cases a3), fun q => by rw [q, Nat.beq_refl] at a4; cases a4⟩
 ·cases h
theorem try0 (ok : Ok0) {m : Nat} (hm : 5 ≤ m) (hn : m + 2 ≤ K.n) {d : TD} (T : TOk K d) (c : Conf K lo w) (hfr : K.A.frames = some (K.env :: outer)) (B : Bel w K.L K.env outer) {x : Int} {H2 : St} (e1 : evs (fun x H => (lvl C0.P (m + 1)).ev x lo K.ce K.b H) [d.a, d.b] w.H = some ([.int x, .int 0], H2)) {k1 k2 : Nat} {p1 p2 : Pos} {u1 u2 : AV} (q1 : d.e1 = .var k1 p1) (q2 : d.e2 = .var k2 p2) (hk1 : isLoc K.kd k1 = true) (hk2 : isLoc K.kd k2 = true)
  (n1 : k1 ≠ d.en) (n2 : k2 ≠ d.en) (hu1 : lkp k1 lo = some u1) (hu2 : lkp k2 lo = some u2) (Q : Flow → Shared → Prop) (E : Value → Shared → Prop) (esc : ∀ v s, Esc K.b K.L outer w (.rt (.tup [u1, u2, .str []]), lo, H2) v s → Q (.ret v) s) : wpAny M0 K.A (exec d.toS K.env) Q E w.s := by
 obtain ⟨fa, o5, fd5, F5⟩ := ok.fn 5 f5 (by rw [ok.P]; rfl)
 unfold TD.toS
 rw [q1, q2, T.k]
 refine wpAny_Try_except (wpAny_execs_cons (PyProof.Rows.Assign_Tuple (call_pre ok (snd_lvl ok (m + 1)).ev (Nat.le_of_succ_le hn) F5 T.g42 (Bool.and_eq_true_iff.mpr ⟨T.a, Bool.and_eq_true_iff.mpr ⟨T.b, rfl⟩⟩) c e1 _ _ fun w1 t t' l1 eH1 => ?_) rfl rfl))
 have c1 := c.up l1
 have B1 := B.le l1 (fun a q => nomatch q) ((c1.F).imp fun _ q => q.1)
 have O1 : ∀ a ∈ frs (K.env :: outer), LOk w1.ρ a := fun a q => by
  unfold frs at q
  rw [List.filterMap_cons, B.fr] at q
  cases q with
  | head => exact c1.O
  | tail _ q => exact B1.O a q
 obtain ⟨base, hl1⟩ := B1.hl
 refine div0_raises (b := K.b) ok F5 (K.R.le (Nat.le_trans (Nat.succ_le_succ hm) (Nat.le_of_succ_le hn))) hfr hl1 O1 _ _ fun w2 h' e t0 L5 l2 eH2 hL5 LO5 nsL5 hfl htup ht0 he0 hup => ?_
 have c2 := c1.up l2
 have B2 := B1.le l2 (fun a q => nomatch q) ((c2.F).imp fun _ q => q.1)
 have cov : ∀ {P : Addr → Prop}, P L5 → P K.L → (∀ a ∈ frs outer, P a) → ∀ a ∈ L5 :: frs (K.env :: outer), P a := fun {P} x y z a m => by
  cases m with
  | head => exact x
  | tail _ m =>
   unfold frs at m
   rw [List.filterMap_cons, B.fr] at m
   cases m with
   | head => exact y
   | tail _ m => exact z a m
 have mL : ∀ a, a = K.L ∨ a ∈ frs outer → a ∈ L5 :: frs (K.env :: outer) := fun a q => by
  unfold frs at q ⊢
  rw [List.filterMap_cons, B.fr]
  exact .tail _ (q.elim (fun q => q ▸ .head _) (.tail _))
 refine caught_snd (fr := L5 :: frs (K.env :: outer)) ok (by have := K.R.un; have := cLine_is; (first | lia | omega)) c2 B.fr hfr (mL _ (.inl rfl)) (cov nsL5 (c2.F.imp fun _ q => q.1) B2.ns) (cov LO5 c2.O B2.O) hfl htup ht0 he0 hup hk1 hk2 T.en n1 n2 hu1 hu2 T.g43 T.g93 _ _ fun h9 T9 tk A9 => ?_
 refine esc _ _ ⟨u1, u2, w2, h9, T9, tk, _, rfl, (l1.trans l2).widen, eH2.trans eH1, A9, cov (fun q => ?_) (fun _ => .inl rfl) (fun a m _ => .inr m), fun a m => mL a (.inr m), rfl, ?_⟩
 ·obtain ⟨o, q⟩ := q
  obtain ⟨o', q⟩ := l1.p.E.alive _ o q
  exact nomatch hL5.symm.trans q
 ·rw [(l1.trans l2).s]
theorem try1 (ok : Ok0) {m : Nat} (hn : m + 2 ≤ K.n) {d : TD} (T : TOk K d) (c : Conf K lo w) {x y : Int} {H2 H3 : St} {v3 : AV} {z : Lo × St} (e1 : evs (fun x H => (lvl C0.P (m + 1)).ev x lo K.ce K.b H) [d.a, d.b] w.H = some ([.int x, .int y], H2)) (ec : (lvl C0.P (m + 1)).cl 5 [.int x, .int y] [] K.b H2 = some (v3, H3)) (ez : asgM (.tup [d.q, d.r] d.tp) v3 lo K.ce K.b H3 = some z)
  (Q : Flow → Shared → Prop) (E : Value → Shared → Prop) (k : ∀ w3, Le K.b (some K.L) w w3 → Pr (FrL K) w3 z () → Q .next w3.s) : wpAny M0 K.A (exec (.Assign [.Tuple [.Name (nm d.q.1) d.q.2, .Name (nm d.r.1) d.r.2] 0 d.tp] (.Call (.Name (nm 42) d.fp) [d.a.toE, d.b.toE] [] d.cp) d.ap) K.env) Q E w.s := by
 obtain ⟨fa, o5, fd5, F5⟩ := ok.fn 5 f5 (by rw [ok.P]; rfl)
 have D := snd_lvl ok (m + 1)
 refine PyProof.Rows.Assign_Tuple (call_pre ok D.ev (Nat.le_of_succ_le hn) F5 T.g42 (Bool.and_eq_true_iff.mpr ⟨T.a, Bool.and_eq_true_iff.mpr ⟨T.b, rfl⟩⟩) c e1 _ _ fun w1 t t' l1 eH1 => ?_) rfl rfl
 refine D.cl 5 [.int x, .int y] [] K.b w1 f5 fa o5 fd5 K.A [.int x t, .int y t'] [] (by rw [ok.P]; rfl) F5 (by decide) (by decide) (K.R.le (Nat.le_of_succ_le hn)) ⟨_, _, rfl, VR.int, _, _, rfl, VR.int, rfl⟩ rfl (v3, H3) (eH1 ▸ ec) _ _ fun w2 val l2 r2 => ?_
 have hok : (Tg.tup [d.q, d.r] d.tp).ok K.kd = true := by
  show ((isLoc K.kd d.q.1 || isCe K.kd d.q.1) && ((isLoc K.kd d.r.1 || isCe K.kd d.r.1) && true)) = true
  rw [T.q, T.r]; rfl
 exact assign_snd (t := .tup [d.q, d.r] d.tp) ((c.up l1).up l2) K.R hok r2.2 z (r2.1 ▸ ez) _ _ fun w3 _ l3 F3 => k w3 ((l1.trans l2).widen.trans l3) F3
theorem try_inv {m : Nat} {d : TD} {r : RF × Lo × St} {H : St} (T : TOk K d) (ez : ex1 (lvl C0.P (m + 1)) (.tryd d) lo K.ce K.b H = some r) : ∃ x y H2, evs (fun x H => (lvl C0.P (m + 1)).ev x lo K.ce K.b H) [d.a, d.b] H = some ([.int x, .int y], H2) ∧
  ((y = 0 ∧ ∃ u v, (lvl C0.P (m + 1)).ev d.e1 lo K.ce K.b H2 = some u ∧ (lvl C0.P (m + 1)).ev d.e2 lo K.ce K.b u.2 = some v ∧ r = (.rt (.tup [u.1, v.1, .str []]), lo, v.2)) ∨ ∃ v z, (lvl C0.P (m + 1)).cl 5 [.int x, .int y] [] K.b H2 = some v ∧ asgM (.tup [d.q, d.r] d.tp) v.1 lo K.ce K.b v.2 = some z ∧ r = (.nx, z)) := by
 obtain ⟨p, ea, ez⟩ := ob2_inv ez
 obtain ⟨x, e2, ez⟩ := asI_inv ez
 obtain ⟨q, eb, ez⟩ := ob2_inv ez
 obtain ⟨y, e3, ez⟩ := asI_inv ez
 refine ⟨x, y, q.2, evs_two (ea.trans (congrArg some (Prod.ext e2 rfl))) (eb.trans (congrArg some (Prod.ext e3 rfl))), ?_⟩
 rcases cond_inv ez with ⟨hy, ez⟩ | ⟨hy, ez⟩
 ·obtain ⟨u, eu, ez⟩ := ob2_inv ez
  obtain ⟨v, ev, ez⟩ := ob2_inv ez
  exact .inl ⟨eqI_iff.mp hy, u, v, eu, ev, (sI1 ez).symm⟩
 ·obtain ⟨v, ec, ez⟩ := ob2_inv ez
  obtain ⟨z, e5, ez⟩ := ob2_inv ez
  exact .inr ⟨v, z, T.f ▸ ec, e5, (sI1 ez).symm⟩
theorem x_tryd (ok : Ok0) {m : Nat} (hm : 5 ≤ m) (hn : m + 2 ≤ K.n) {d : TD} (T : TOk K d) (c : Conf K lo w) (hfr : K.A.frames = some (K.env :: outer)) (B : Bel w K.L K.env outer) : ExE (Esc K.b K.L outer w) K w (exec d.toS K.env) (ex1 (lvl C0.P (m + 1)) (.tryd d) lo K.ce K.b w.H) := by
 intro r ez Q E kont esc
 obtain ⟨x, y, H2, e1, ez⟩ := try_inv T ez
 rcases ez with ⟨rfl, u, v, eu, ev, er⟩ | ⟨v, z, ec, e5, er⟩
 ·obtain ⟨k1, p1, k2, p2, q1, q2, hk1, hk2, n1, n2⟩ := T.e
  obtain ⟨hu1, a1⟩ := var_loc hk1 _ (q1 ▸ eu)
  obtain ⟨hu2, a2⟩ := var_loc hk2 _ (q2 ▸ ev)
  exact try0 ok hm hn T c hfr B e1 q1 q2 hk1 hk2 n1 n2 hu1 hu2 Q E fun v s h => esc v s (by rw [er, a2, a1]; exact h)
 ·unfold TD.toS
  rw [T.k]
  exact wpAny_Try_except (wpAny_execs_cons (try1 ok hn T c e1 ec e5 _ _ fun w3 l3 F3 => wpAny_execs_nil (wpAny_execs_nil (kont w3 .next l3 (er ▸ ⟨F3.1, F3.2, trivial⟩)))))
end
section
variable {A : Around} {b n : Nat} {w w' w1 w2 : Ws} {K : Kn} {lo : Lo} {V : Lvl} {L : Addr} {outer : List Env}
theorem ExE.imp {Es Es' : RF × Lo × St → Value → Shared → Prop} {t : Sem Flow} {o : Option (RF × Lo × St)} (h : ExE Es K w t o) (k : ∀ r v s, Es r v s → Es' r v s) : ExE Es' K w t o := fun r e Q E q z => h r e Q E q fun v s x => z v s (k r v s x)
theorem for13 (ok : Ok0) {m : Nat} (hm : 5 ≤ m) (hn : m + 2 ≤ K.n) {t : Tg} {it : It} {d : TD} {rest : List S} {p : Pos} (htg : t.ok K.kd = true) (hit : it.ok C0.P K.kd K.tq = true) (hpt : (!it.pairs || t.isTup) = true) (T : TOk K d) (hrest : okSS K rest) (c : Conf K lo w) (hfr : K.A.frames = some (K.env :: outer)) (B : Bel w K.L K.env outer) :
  ExE (Esc K.b K.L outer w) K w (exec (S.fors t it (.tryd d :: rest) p).toS K.env) (ex1 (lvl C0.P (m + 2)) (.fors t it (.tryd d :: rest) p) lo K.ce K.b w.H) :=
 for_gen (EJ := fun w2 => Esc K.b K.L outer w2) ok (snd_lvl ok (m + 2)).ev hn htg hit hpt (fun O w0 w2 lo1 l0 l sf c2 => by
  have hk := l.own
  refine ⟨ExE.seq c2 (ExE.imp (x_tryd ok hm hn T c2 hfr ?_) fun r v s e => ⟨e.rt, e⟩) fun lo' w' l' c' => ExE.plain ((snd_lvl ok (m + 2)).ex rest K lo' w' hn hrest c'), fun r v s e => ⟨e.rt, Esc.le l0.widen (Esc.lp l sf e)⟩⟩
  have kp : ∀ a ∈ frs outer, ∀ o, w.s.heap.get? a = some o → w2.s.heap.get? a = some o := fun a m o e => l.p.E.keep a o (B.kept l0 (fun _ q => nomatch q) a m o e) (fun i _ => ((B.O a m).up e l0).apart i) (B.O a m).tab fun q => B.ne a m (Option.some.inj q).symm
  refine ⟨B.fr, ?_, B.ne, fun a m => ⟨(B.O a m).base, fun i e => ?_, (B.O a m).tab⟩, fun a m => (B.ns a m).imp fun _ q => ns_at q (kp a m)⟩
  ·obtain ⟨base, hk0, ⟨L', o, hf, hn, ho, hdd⟩, hlr⟩ := B.hl
   obtain rfl : K.L = L' := Option.some.inj (B.fr.symm.trans hf)
   obtain ⟨mm, ns, _⟩ := c2.F
   exact ⟨base, .cons hk0 B.fr ns hn (frames_keep hlr kp)⟩
  ·obtain ⟨o, e0⟩ := ns_alive (B.ns a m)
   exact (Nat.lt_or_ge i w0.ρ.length).elim (fun hi => ((B.O a m).up e0 l0).apart i (l.p.X.old hi e)) fun hi => nomatch (l.p.N i a hi e).symm.trans (B.kept l0 (fun _ q => nomatch q) a m _ e0)) c
theorem body_esc (ok : Ok0) {m : Nat} (hm : 5 ≤ m) (hn : m + 3 ≤ K.n) {s1 : S} {t : Tg} {it : It} {d : TD} {rest s3 : List S} {p : Pos} (hok1 : s1.ok C0.P K.kd K.tq = true) (htg : t.ok K.kd = true) (hit : it.ok C0.P K.kd K.tq = true) (hpt : (!it.pairs || t.isTup) = true) (T : TOk K d) (hrest : okSS K rest) (hok3 : okSS K s3) (c : Conf K lo w) (hfr : K.A.frames = some (K.env :: outer)) (B : Bel w K.L K.env outer) :
  ExE (Esc K.b K.L outer w) K w (execs (toSs (s1 :: .fors t it (.tryd d :: rest) p :: s3)) K.env) (exS (lvl C0.P (m + 2)) (s1 :: .fors t it (.tryd d :: rest) p :: s3) lo K.ce K.b w.H) :=
 ExE.seq c (ExE.plain (x_one (snd_lvl ok (m + 2)) ok hok1 hn c)) fun lo1 w1 l1 c1 => ExE.seq c1 (ExE.imp (for13 ok hm (Nat.le_of_succ_le hn) htg hit hpt T hrest c1 hfr (B.le l1 (fun a q => (Option.some.inj q).symm) (c1.F.imp fun _ q => q.1))) fun r v s e => ⟨e.rt, Esc.le l1 e⟩)
  fun lo2 w2 l2 c2 => ExE.plain (ex_step (snd_lvl ok (m + 2)) ok s3 K lo2 w2 hn hok3 c2)
end
section
variable {A : Around} {b n : Nat} {w w' w1 w2 w3 : Ws} {K : Kn} {lo lo' : Lo} {V : Lvl} {L : Addr} {outer : List Env}
theorem home13 {H3 : St} {u : AV} {z : AV × List Nat × List AO} {val : Value} (hL : LOk w.ρ L) (dL : Dic (some L) w.s.heap) (l : Le w.H.length (some L) w w3) (eH : w3.H = H3) (hh : home w.H.length H3 u = some z) (r : VR w3 u val) : ∃ w4, Le b (some L) w w4 ∧ w4.s = w3.s ∧ w4.H = w.H ++ z.2.2 ∧ VR w4 z.1 val := by
 have r : VRel w3.U w3.ρ w3.s.heap u val := r
 rw [l.u] at r
 obtain ⟨ρk, pk, rk⟩ := home_snd (b := b) (fun a q => Option.some.inj q ▸ hL) dL w.S l.p r z (eH ▸ hh)
 exact ⟨⟨w.U, ρk, _, w3.s, pk.S, w3.t⟩, ⟨pk, l.t, rfl, l.s⟩, rfl, rfl, rk⟩
theorem esc_le {env0 : Env} {L13 : Addr} {r : RF × Lo × St} {v : Value} {s : Shared} {u : AV} (hframe : env0.frame = some L) (l1 : Le b none w w1) (h13 : w.s.heap.get? L13 = none) (hL : LOk w.ρ L) {oL : Obj} (eL : w.s.heap.get? L = some oL) (e : Esc b L13 [env0] w1 r v s) (er : r.1 = .rt u) (ht : w.s.toks ≤ s.toks) :
  ∃ w3, Le b (some L) w w3 ∧ w3.s = s ∧ w3.H = r.2.2 ∧ VR w3 u v ∧ ∃ sl, s.heap.get? L = some { oL with slots := sl } := by
 obtain ⟨u1, u2, w2, h9, T, tk, fr, e⟩ := e
 have eF : frs [env0] = [L] := by unfold frs; rw [List.filterMap_cons, hframe]; rfl
 have lT : Le b none w w2 := l1.frame e.l h13 (Nat.le_refl _)
 have nf : ∀ a, a ≠ L → (∃ o, w.s.heap.get? a = some o) → a ∉ fr := fun a ne q m => by
  obtain ⟨o, q⟩ := q
  rcases e.ff a m (l1.p.E.alive a o q) with h | h
  ·exact nomatch (h ▸ h13).symm.trans q
  ·rw [eF] at h; exact ne (List.mem_singleton.mp h)
 have kg : w2.s.heap.get? L = some oL := lT.p.E.keep L oL eL (fun i _ => hL.apart i) hL.tab fun q => nomatch q
 obtain ⟨sl, eL9⟩ := e.a.fr L (e.sub L (by rw [eF]; exact .head _)) (fun q => nomatch (q ▸ h13 : w.s.heap.get? L = none).symm.trans eL) oL kg
 obtain ⟨v1, v2, tok, m, r1, r2, eT⟩ := e.a.r
 have es := e.s
 subst es
 have S9 := e.a.S
 refine ⟨⟨w2.U, w2.ρ, w2.H, { w1.s with heap := h9, toks := tk }, S9, Nat.lt_of_lt_of_le w.t ht⟩, ⟨⟨lT.u ▸ S9, ⟨fun a o q => ?_, fun a o q hn ht hz => e.a.kp a o (nf a (fun x => hz (by rw [x])) ⟨o, q⟩) (lT.p.E.keep a o q hn ht fun x => nomatch x)⟩, lT.p.X, lT.p.N⟩, ht, lT.u, congrArg (fun z : Shared => { z with heap := h9, toks := tk }) l1.s⟩, rfl, e.H, ?_, sl, eL9⟩
 ·obtain ⟨o', q'⟩ := lT.p.E.alive a o q
  exact (Classical.em (a = L)).elim (fun x => ⟨_, x ▸ eL9⟩) fun x => ⟨o', e.a.kp a o' (nf a x ⟨o, q⟩) q'⟩
 ·obtain rfl := RF.rt.inj (er.symm.trans e.er)
  rw [e.v]
  exact ⟨T, [v1, v2, .str (toS []) tok], m, rfl, eT, (fun q => (w2.S.hid T q).elim fun o q => nomatch e.a.new.symm.trans q), _, _, rfl, r1, _, _, rfl, r2, _, _, rfl, VR.str, rfl⟩
theorem ns_slots {h h' : Heap} {a : Addr} {o : Obj} {sl : Array (Option Value)} {m : Str → Option Value} (e : h.get? a = some o) (e' : h'.get? a = some { o with slots := sl }) (q : h.Ns a m) : h'.Ns a m := by
 obtain ⟨o', es, ep, e2, hd, r⟩ := q
 cases e.symm.trans e2
 exact ⟨_, es, ep, e', hd, r⟩
theorem call13 (ok : Ok0) {m : Nat} (hm5 : 5 ≤ m) (R : Rm A (m + 4)) {fa : Addr} {o : Obj} {fd : FuncData} (F : FnAt 13 f13 fa o fd) {x y : Int} {t u : Tok} {env0 : Env} {base0 : Heap} (hfr : A.frames = some [env0]) (hframe : env0.frame = some L) (hl : w.s.heap.FunFrames base0 [env0]) (hL : LOk w.ρ L) (hns : ∃ mm, w.s.heap.Ns L mm)
  {H3 : St} {v' : AV} {z : AV × List Nat × List AO} {lo3 : Lo} (hx : exS (lvl C0.P (m + 2)) b13 [(83, .int x), (84, .int y)] [] w.H.length w.H = some (.rt v', lo3, H3)) (hh : home w.H.length H3 v' = some z) (Q E : Value → Shared → Prop)
  (k : ∀ w2 val, Le b (some L) w w2 → w2.H = w.H ++ z.2.2 → (∀ mm, w.s.heap.Ns L mm → w2.s.heap.Ns L mm) → VR w2 z.1 val → Q val w2.s) : wpAny M0 A (call (.ref fa) [.int x t, .int y u] []) Q E w.s := by
 have hf : nth C0.P 13 = some f13 := by rw [ok.P]; rfl
 have N : NewF (m + 3) f13.kd (tqOf 13) [] w.H.length w.H.length w fd.code (fd.qualname ++ ".<locals>.") fd.closure A := ⟨R, Nat.le_refl _, by decide +kernel, (fun k i e => nomatch e), (fun k i e => nomatch e), (fun k m => nomatch List.all_eq_true.mp (by decide +kernel : noFre f13.kd = true) _ m), F.tab⟩
 obtain ⟨bvals, B, r, hbk⟩ := bind_snd (w := w) (xs := [.int x, .int y]) (vs := [.int x t, .int y u]) (ks := []) (kvals := []) ok hf F ⟨_, _, rfl, VR.int, _, _, rfl, VR.int, rfl⟩ rfl [(83, .int x), (84, .int y)] rfl
 refine wpAny_with_toks (n := w.s.toks) (Nat.le_refl _) ?_
 have dL : Dic (some L) w.s.heap := hns.elim fun _ q => ns_dic q
 obtain ⟨oL, eoL⟩ := ns_alive hns
 refine frame_snd (b := w.H.length) (γ := Unit) (β := Unit) (R2 := fun _ _ _ => False) (T := fun _ E' => E' = (fun e s' => w.s.toks ≤ s'.toks → E e s') → wpAny M0 A (call (.ref fa) [.int x t, .int y u] []) (fun v s => w.s.toks ≤ s.toks → Q v s) E' w.s) (A1 := A.in1) (mo := f13.mo) (fa := fa) (f := fun lo H => @ite _ (exS (lvl C0.P (m + 2)) b13 lo [] w.H.length H = some (.rt v', lo3, H3)) (Classical.propDecidable _) (some ()) none) N hbk r
  (G := fun env s _ E' => E' = (fun e s' => w.s.toks ≤ s'.toks → E e s') → s.heap.NoLimit ∧ codeAny M0 A (.func (toSs f13.body) env) (fun r s' => match r with | .ok (.ret v) => w.s.toks ≤ s'.toks → Q v s' | .ok _ => False | .error e => w.s.toks ≤ s'.toks → E e s') s) (fun _ E' h hE => ?_) (fun cells L13 w1 lo l1 hL1 c1 zz ez _ E' _ hE => ⟨ok.limit w1, codeAny_func ?_⟩) () (if_pos hx) (fun _ _ => True) _ (fun _ _ _ q => q.elim) rfl
 ·refine wpAny_call (codeAny_call_function N.R.depth (w.S.base _ _ F.at_) F.data (by rw [F.scope]; rfl) (by rw [F.scope]; rfl) F.body (F.code.keeps w.S.base) (B _ _ _ _ ?_))
  rw [F.scope, F.globals, F.builtins]
  subst hE
  exact wpAny_mono h (fun _ _ g => g rfl) fun _ _ e => e
 have htv : exS (lvl C0.P (m + 2)) b13 lo [] w.H.length w1.H = some (.rt v', lo3, H3) := by
  split at ez
  ·assumption
  ·cases ez
 have nL : L ≠ L13 := fun q => nomatch (q ▸ hL1 : w.s.heap.get? L = none).symm.trans eoL
 have kL : ∀ o, w.s.heap.get? L = some o → w1.s.heap.get? L = some o := fun o e => l1.p.E.keep L o e (fun i _ => hL.apart i) hL.tab fun q => nomatch q
 have eF : frs [env0] = [L] := by unfold frs; rw [List.filterMap_cons, hframe]; rfl
 have on1 : ∀ {P : Addr → Prop}, P L → ∀ a ∈ frs [env0], P a := fun h => by rw [eF]; exact all1 h
 obtain ⟨mm1, ns1, _⟩ := c1.F
 have hbn : (hideAll w.s.heap [L]).get? L13 = none := by
  cases q : (hideAll w.s.heap [L]).get? L13 with
  | none => rfl
  | some o => exact nomatch hL1.symm.trans (of_hideAll _ q)
 have BB : Bel w1 L13 (newF N f13.mo cells (some fa) L13).env [env0] := ⟨rfl, ⟨_, .cons (by rw [(newF N f13.mo cells (some fa) L13).kind]; decide) rfl ns1 hbn (frames_keep (funFrames_hide hl fun env' he a hfa => by
  cases he with
  | head => rw [hframe] at hfa; cases hfa; exact .head _
  | tail _ he => cases he) (on1 kL))⟩, on1 nL, on1 (hL.up eoL l1), on1 (hns.imp fun _ q => ns_at q kL)⟩
 refine body_esc ok hm5 (Nat.le_refl (m + 3)) (K := newF N f13.mo cells (some fa) L13) ?_ ?_ ?_ ?_ (tok_of ?_) ?_ ?_ c1 (Around.frames_deeper hfr) BB (.rt v', lo3, H3) htv _ _ (fun w2 fl l2 F2 => ?_) fun v s he => ?_
 ·rw [ok.P]; show S.ok fns f13.kd (tqOf 13) _ = true; decide +kernel
 ·show Tg.ok f13.kd _ = true; decide +kernel
 ·rw [ok.P]; show It.ok fns f13.kd (tqOf 13) _ = true; decide +kernel
 ·decide +kernel
 ·rw [ok.P]; show TD.ok fns f13.kd (tqOf 13) _ = true; decide +kernel
 ·unfold okSS; rw [ok.P]; show okSs fns f13.kd (tqOf 13) _ = true; decide +kernel
 ·unfold okSS; rw [ok.P]; show okSs fns f13.kd (tqOf 13) _ = true; decide +kernel
 ·have l := (l1.frame l2 hL1 (Nat.le_refl _)).widen (L := some L)
  cases fl <;> try exact F2.2.2.elim
  obtain ⟨w4, l4, es, eH, r4⟩ := home13 hL dL l F2.1 hh F2.2.2
  exact fun _ => es ▸ k w4 _ l4 eH (fun mm q => by rw [es]; exact ns_at q fun o e => (l1.frame l2 hL1 (Nat.le_refl _)).p.E.keep L o e (fun i _ => hL.apart i) hL.tab fun q => nomatch q) r4
 ·refine fun ht => ?_
  obtain ⟨w3, l3, es, eH, r3, sl, eL9⟩ := esc_le hframe l1 hL1 hL eoL he rfl ht
  obtain ⟨w4, l4, es4, eH4, r4⟩ := home13 hL dL l3 eH hh r3
  rw [← es, ← es4]
  exact k w4 _ l4 eH4 (fun mm q => by rw [es4, es]; exact ns_slots eoL eL9 q) r4
end
section
variable {n : Nat} {w : Ws} {K : Kn} {lo lo1 lo2 : Lo} {V : Lvl}
theorem x_call13 (ok : Ok0) (D : SndE n V.ev) (hn : n ≤ K.n) {m : Nat} (hm5 : 5 ≤ m) (R12 : Rm K.A (m + 4)) {ks : List (Nat × Pos)} {tp np cp p : Pos} {a1 a2 : X} {x y : Int} (ha : okXs K [a1, a2]) (hks : (Tg.tup ks tp).ok K.kd = true) (hg : isG K.kd 91 = true) {H1 H3 : St}
  (e1 : evs (fun x H => V.ev x lo K.ce K.b H) [a1, a2] w.H = some ([.int x, .int y], H1)) {v' : AV} {z : AV × List Nat × List AO} {lo3 : Lo} {z2 : Lo × St} (hx : exS (lvl C0.P (m + 2)) b13 [(83, .int x), (84, .int y)] [] H1.length H1 = some (.rt v', lo3, H3)) (hh : home H1.length H3 v' = some z) (hs : asgM (.tup ks tp) z.1 lo K.ce K.b (H1 ++ z.2.2) = some z2)
  (hfr : K.A.frames = some [K.env]) (hframe : K.env.frame = some K.L) {base0 : Heap} (hl : w.s.heap.FunFrames base0 [K.env]) (c : Conf K lo w) (Q : Flow → Shared → Prop) (E : Value → Shared → Prop) (k : ∀ w', Le K.b (some K.L) w w' → Pr (FrL K) w' z2 () → Q .next w'.s) :
  wpAny M0 K.A (exec (S.asg (.tup ks tp) (.gcall 13 91 [a1, a2] [] np cp) p).toS K.env) Q E w.s := by
 obtain ⟨fa, o, fd, F⟩ := ok.fn 13 f13 (by rw [ok.P]; rfl)
 have e0 : (S.asg (.tup ks tp) (.gcall 13 91 [a1, a2] [] np cp) p).toS = .Assign [.Tuple (ks.map fun x => .Name (nm x.1) x.2) 0 tp] (.Call (.Name (nm f13.nmk) np) [a1.toE, a2.toE] [] cp) p := by
  kernel_rfl
 rw [e0]
 have hg' : isG K.kd f13.nmk = true := hg
 refine PyProof.Rows.Assign_Tuple ?_ rfl rfl
 refine call_pre (np := np) (cp := cp) ok D hn F hg' ha c e1 _ _ fun w1 t t' l1 eH1 => ?_
 have c1 := c.up l1
 have hL : ∀ a ∈ [K.env].filterMap (·.frame), a = K.L := fun a m => by
  rw [List.filterMap_cons, hframe] at m
  exact List.mem_singleton.mp m
 subst eH1
 refine call13 (b := K.b) ok hm5 R12 F hfr hframe (frames_keep hl fun a m o e => l1.p.E.keep a o e (fun i _ => hL a m ▸ c.O.apart i) (hL a m ▸ c.O.tab) fun q => nomatch q) c1.O (c1.F.imp fun _ q => q.1) hx hh _ _ fun w2 val l2 eH2 kn r2 => ?_
 have c2 : Conf K lo w2 := c1.upL l2 (c1.F.imp fun mm q => ⟨kn mm q.1, fun k v e => (q.2 k v e).imp fun _ q => ⟨q.1, VR.upL q.2 l2 c1.dic⟩⟩)
 exact assign_snd (t := .tup ks tp) c2 K.R hks r2 z2 (eH2 ▸ hs) _ _ fun w3 _ l3 F3 => k w3 (l1.widen.trans (l2.trans l3)) F3
theorem toSs_append (xs ys : List S) : toSs (xs ++ ys) = toSs xs ++ toSs ys := by
 induction xs with
 | nil => rfl
 | cons x xs ih => exact congrArg (x.toS :: ·) ih
theorem exs_pre (D : Snd n V) (ok : Ok0) (hn : n + 1 ≤ K.n) {rest : List PySem.Stmt} {ss : List S} : ∀ {lo : Lo} {w : Ws}, okSS K ss → Conf K lo w → ∀ {lo1 : Lo} {H1 : St}, exS V ss lo K.ce K.b w.H = some (.nx, lo1, H1) → ∀ (Q : Flow → Shared → Prop) (E : Value → Shared → Prop),
  (∀ w', Le K.b (some K.L) w w' → w'.H = H1 → Conf K lo1 w' → wpAny M0 K.A (execs rest K.env) Q E w'.s) → wpAny M0 K.A (execs (toSs ss ++ rest) K.env) Q E w.s := by
 induction ss with
 | nil =>
  intro lo w _ c lo1 H1 h Q E k
  cases h
  exact k w Le.refl rfl c
 | cons st ss ih =>
  intro lo w hok c lo1 H1 h Q E k
  obtain ⟨p, e1, h⟩ := obX_inv h
  refine wpAny_execs_cons (x_one D ok (and_split hok).1 hn c p e1 _ _ fun w1 fl l1 F1 => ?_)
  rcases h with ⟨q, h⟩ | ⟨_, _, h⟩
  ·have q3 := F1.2.2
   rw [q] at q3
   cases fl <;> try exact q3.elim
   exact ih (and_split hok).2 (c.upL l1 F1.2.1) (F1.1 ▸ h) Q E fun w2 l2 eH c2 => k w2 (l1.trans l2) eH c2
  ·cases h
theorem law_body (D : Snd n V) (ok : Ok0) (hn : n + 1 ≤ K.n) {m : Nat} (hm5 : 5 ≤ m) (R12 : Rm K.A (m + 4)) {pre suf : List S} {ks : List (Nat × Pos)} {tp np cp p : Pos} {a1 a2 : X} {x y : Int} (hok1 : okSS K pre) (hok2 : okSS K suf) (ha : okXs K [a1, a2]) (hks : (Tg.tup ks tp).ok K.kd = true) (hg : isG K.kd 91 = true) {H1 H2 H3 : St}
  (h1 : exS V pre lo K.ce K.b w.H = some (.nx, lo1, H1)) (e1 : evs (fun x H => V.ev x lo1 K.ce K.b H) [a1, a2] H1 = some ([.int x, .int y], H2)) {v' : AV} {z : AV × List Nat × List AO} {lo9 : Lo} {z2 : Lo × St} {r : RF × Lo × St} (hx : exS (lvl C0.P (m + 2)) b13 [(83, .int x), (84, .int y)] [] H2.length H2 = some (.rt v', lo9, H3)) (hh : home H2.length H3 v' = some z)
  (hs : asgM (.tup ks tp) z.1 lo1 K.ce K.b (H2 ++ z.2.2) = some z2) (h2 : exS V suf z2.1 K.ce K.b z2.2 = some r) (hfr : K.A.frames = some [K.env]) (hframe : K.env.frame = some K.L) {base0 : Heap} (hl : w.s.heap.FunFrames base0 [K.env]) (c : Conf K lo w) :
  EvP K.b (some K.L) (XR K) w (wq K.A (execs (toSs (pre ++ S.asg (.tup ks tp) (.gcall 13 91 [a1, a2] [] np cp) p :: suf)) K.env) w) r := by
 intro Q E kont
 show wpAny _ _ _ Q E w.s
 rw [toSs_append]
 refine exs_pre D ok hn hok1 c h1 Q E fun w1 l1 eH1 c1 => ?_
 have hl1 : w1.s.heap.FunFrames base0 [K.env] := by
  obtain ⟨hk0, ⟨L', o, hf, hn, ho, hdd⟩, hlr⟩ := hl
  obtain rfl : K.L = L' := Option.some.inj (hframe.symm.trans hf)
  obtain ⟨mm, ns, _⟩ := c1.F
  exact .cons hk0 hframe ns hn trivial
 subst eH1
 refine wpAny_execs_cons (x_call13 ok D.ev (Nat.le_of_succ_le hn) hm5 R12 ha hks hg e1 hx hh hs hfr hframe hl1 c1 _ _ fun w2 l2 F2 => ?_)
 exact ex_step D ok suf K z2.1 w2 hn hok2 (c1.upL l2 F2.2) r (F2.1 ▸ h2) Q E fun w3 fl l3 F3 => kont w3 fl (l1.trans (l2.trans l3)) F3
end
theorem rowsOf_at {fn : Fn} : ∀ (l : List Fn) (t : List (Addr × Addr × Addr)) (k f : Nat), Nat.ble l.length t.length = true → nth l f = some fn → ∃ x ∈ rowsOf k l t, x.f = k + f ∧ x.fn = fn
 | [], _, _, _, _, e => nomatch e
 | _ :: _, [], _, _, h, _ => nomatch h
 | y :: r, (a, b, c) :: t, k, 0, h, e => ⟨⟨k, y, a, b, c⟩, .head _, rfl, Option.some.inj e⟩
 | y :: r, (a, b, c) :: t, k, f + 1, h, e => let ⟨x, m, e1, e2⟩ := rowsOf_at r t (k + 1) f h e; ⟨x, .tail _ m, e1.trans (Nat.succ_add k f), e2⟩
theorem rows1_f (f : Nat) (fn : Fn) (e : nth fns f = some fn) : ∃ x ∈ rows1, x.f = f ∧ x.fn = fn :=
 let ⟨x, m, e1, e2⟩ := rowsOf_at fns adr1 0 f rfl e; ⟨x, m, e1.trans (Nat.zero_add f), e2⟩
theorem rows1_ok : (rows1.all fun x => x.fn.okH && ((Nat.beq x.f 13 || Nat.beq x.f 20) || okSs fns x.fn.kd (tqOf x.f) x.fn.body)) = true := by decide +kernel
theorem rows1_tab0 : (rows1.all fun x => Nat.beq (tqOf x.f) 0 || T3.any fun y => Nat.beq x.ca y.1 && (y.2.2 == (nm x.fn.nmk ++ ".<locals>.") ++ tqName (tqOf x.f))) = true := by decide +kernel
theorem rows1_tab : ∀ x ∈ rows1, tqOf x.f ≠ 0 → ∃ y ∈ T3, x.ca = y.1 ∧ y.2.2 = (nm x.fn.nmk ++ ".<locals>.") ++ tqName (tqOf x.f) := by
 intro x hx h
 have q := List.all_eq_true.mp rows1_tab0 x hx
 rw [Bool.or_eq_true] at q
 rcases q with q | q
 ·exact absurd (Nat.eq_of_beq_eq_true q) h
 ·obtain ⟨y, hy, q⟩ := List.any_eq_true.mp q
  obtain ⟨q1, q2⟩ := and_split q
  exact ⟨y, hy, Nat.eq_of_beq_eq_true q1, beq_iff_eq.mp q2⟩
theorem map_at {α β : Type} {f g : α → β} : ∀ {l : List α}, l.map f = l.map g → ∀ x ∈ l, f x = g x
 | _ :: _, e, _, .head _ => (List.cons.inj e).1
 | _ :: _, e, _, .tail _ m => map_at (List.cons.inj e).2 _ m
section
variable {K : Frag}
theorem fnAt_of (X : K.In C0.B) (G : C0.B.Ns mainGlobals C0.mg) (k : KOk K) (hP : C0.P = fns) (hT : C0.T = T3) (f : Nat) (fn : Fn) (e : nth fns f = some fn) : ∃ fa o fd, FnAt f fn fa o fd := by
 obtain ⟨x, hx, rfl, rfl⟩ := rows1_f f fn e
 have q := map_at k.fns x hx
 unfold seen1 due1 at q
 simp only [Prod.mk.injEq] at q
 obtain ⟨⟨a1, a2, a3, a4⟩, ⟨b1, b2, b3⟩, ⟨c1, c2, c3, c4⟩, ⟨d1, d2, d3⟩, e1⟩ := q
 have hok := List.all_eq_true.mp rows1_ok x hx
 obtain ⟨o1, o2⟩ := and_split hok
 refine ⟨x.fa, obK K x.fa, fdK K x.fa, { at_ := X _ _ a2, data := a3, name := mg_of X G a1, params := b1, body := b2, scope := b3, globals := c1, builtins := c2, closure := c3, code := ?_, tab := ?_, dV0 := ?_, dV2 := ?_, okH := o1, okB := ?_ }⟩
 ·exact ⟨x.ca, obK K x.ca, fsK K x.ca, tkK K x.ca, c4, X _ _ d1, d2, by rw [a4]; exact d3⟩
 ·intro h
  obtain ⟨y, hy, y1, y2⟩ := rows1_tab x hx h
  exact ⟨y, by rw [hT]; exact hy, by rw [c4, y1], by rw [a4]; exact y2⟩
 ·intro h
  rw [h] at e1
  exact (Prod.mk.inj e1).1
 ·intro h
  cases hd : x.fn.df with
  | nil => exact absurd hd h
  | cons u v =>
   rw [hd] at e1
   obtain ⟨g1, g2⟩ := Prod.mk.inj e1
   obtain ⟨g2, g3⟩ := Prod.mk.inj g2
   exact ⟨x.da, obK K x.da, 0, t0K K x.da, g1, X _ _ g2, g3⟩
 ·intro h13 h20
  rw [hP]
  rw [Bool.or_eq_true, Bool.or_eq_true] at o2
  rcases o2 with (o2 | o2) | o2
  ·exact absurd (Nat.eq_of_beq_eq_true o2) h13
  ·exact absurd (Nat.eq_of_beq_eq_true o2) h20
  ·exact o2
theorem cx_ok {p : Program} {loose : List Str} {mean : ExcName → Option Value} (X : K.In C0.B) (T : Top p loose mean C0.mg C0.mb C0.B) (k : KOk K) (hP : C0.P = fns) (hT : C0.T = T3) : Ok0 := by
 refine { P := hP, g := T.g, b := T.b, lim := T.nolimit, bat := ?_, bl := ?_, booked := ?_, gc0 := ⟨_, mg_of X T.g k.c0⟩, gc1 := ⟨_, mg_of X T.g k.c1⟩, fn := fun f fn e => fnAt_of X T.g k hP hT f fn (by rw [← hP]; exact e), tinj := ?_ }
 ·obtain ⟨bm, ob, h1, h2, h3, h4, h5, h6⟩ := T.bmain
  refine ⟨bm, ob, h1, h2, fun q => ?_, h3, h4, h5, h6⟩
  obtain ⟨o, es, ep, e1, e2, _⟩ := T.g
  rw [← q, h3] at e1
  cases e1
  rw [h6] at e2; cases e2
 ·intro j v hv
  have q := map_at (f := fun x : Nat × Value => (nsIn K mainGlobals (nm x.1), bootBuiltins (nm x.1))) (g := fun x => (some none, some x.2)) (l := bl1) k.bl (j, v) hv
  obtain ⟨q1, q2⟩ := Prod.mk.inj q
  refine ⟨mg_none_of X T.g q1, ?_⟩
  have hn : nm j ≠ "__name__" := by
   have : (bl1.all fun x => !(nm x.1 == "__name__")) = true := by decide +kernel
   have := List.all_eq_true.mp this (j, v) hv
   intro z
   rw [show nm (j, v).1 = nm j from rfl, z] at this
   simp at this
  rw [T.builtins _ hn]
  exact q2
 ·obtain ⟨mc, ⟨o, es, ep, e1, e2, e3, e4⟩, _⟩ := T.nolimit
  have := X _ _ k.st
  rw [e1] at this
  cases this
  cases e2
  exact ⟨mc, ⟨_, _, _, e1, rfl, e3, e4⟩, (e4 _).symm.trans rfl⟩
 ·rw [hT]
  intro x hx y hy h
  unfold T3 at hx hy
  simp only [List.mem_cons, List.not_mem_nil, or_false] at hx hy
  rcases hx with rfl | rfl | rfl <;> rcases hy with rfl | rfl | rfl <;> first | rfl | (exact absurd h (by decide))
end
end Mine
end
section
open PySem
namespace Mine.Pl
noncomputable def up (cl : Nat → List AV → List (Nat × AV) → Nat → St → Option (AV × St)) (L : Lvl) : Lvl := ⟨evS L, tvS L, exS L, cl, vcS L⟩
section
variable {cl : Nat → List AV → List (Nat × AV) → Nat → St → Option (AV × St)} {L : Lvl} {b k i : Nat} {lo lo' : Lo} {ce : Ce} {H H1 H2 H3 H' : St} {u v w : AV} {l r x y o c : X} {p q kp : Pos} {z : AV × St} {rest T E : List S} {t : Bool} {R : Option (RF × Lo × St)} {vs : List AV} {xs : List X}
theorem v_bin {op : Operator} (e1 : L.ev l lo ce b H = some (u, H1)) (e2 : L.ev r lo ce b H1 = some (w, H2)) (e3 : binM op u w H2 = some z) : (up cl L).ev (.bin l op r p) lo ce b H = some z := by
 show ob2 (L.ev l lo ce b H) (fun u H => ob2 (L.ev r lo ce b H) fun v H => binM op u v H) = _
 rw [e1]; show ob2 (L.ev r lo ce b H1) _ = _; rw [e2]; exact e3
theorem v_bcall {f : BF} (e1 : evs (fun x H => L.ev x lo ce b H) xs H = some (vs, H1)) (e2 : bfM f vs H1 = some z) : (up cl L).ev (.bcall f xs q p) lo ce b H = some z := by
 show ob2 (evs (fun x H => L.ev x lo ce b H) xs H) (fun vs H => bfM f vs H) = _
 rw [e1]; exact e2
noncomputable def Rt (o : Option (RF × Lo × St)) (v : AV) (H : St) : Prop := ∃ lo, o = some (.rt v, lo, H)
theorem exS_nx {s : S} {lo1 : Lo} (e : ex1 L s lo ce b H = some (.nx, lo1, H1)) : exS L (s :: rest) lo ce b H = exS L rest lo1 ce b H1 := by
 show obX (ex1 L s lo ce b H) _ _ = _
 rw [e]; rfl
theorem Rt.st {s : S} {lo1 : Lo} (e : ex1 L s lo ce b H = some (.nx, lo1, H1)) (h : Rt (exS L rest lo1 ce b H1) v H') : Rt (exS L (s :: rest) lo ce b H) v H' := h.imp fun _ q => (exS_nx e).trans q
theorem Rt.ret (e : L.ev x lo ce b H = some (v, H1)) : Rt (exS L (.ret x p :: rest) lo ce b H) v H1 := ⟨lo, by
 show obX (ob2 (L.ev x lo ce b H) _) _ _ = _
 rw [e]; rfl⟩
theorem x_asg (e : L.ev x lo ce b H = some (v, H1)) (n : lkp k ce = none) : ex1 L (.asg (.name k kp) x p) lo ce b H = some (.nx, setL k v lo, H1) := by
 show ob2 (L.ev x lo ce b H) (fun v H => nxM (storeM k v lo ce b H)) = _
 rw [e]
 show nxM (storeM k v lo ce b H1) = _
 unfold storeM; rw [n]; rfl
theorem exS_app : ∀ {pre : List S} {lo lo' : Lo} {H H' : St}, exS L pre lo ce b H = some (.nx, lo', H') → exS L (pre ++ rest) lo ce b H = exS L rest lo' ce b H' := fun {pre} => by
 induction pre with
 | nil => intro lo lo' H H' h; cases h; rfl
 | cons s r ih =>
  intro lo lo' H H' h
  show obX (ex1 L s lo ce b H) (fun lo H => exS L (r ++ rest) lo ce b H) _ = _
  have h : obX (ex1 L s lo ce b H) (fun lo H => exS L r lo ce b H) (fun v lo H => some (.rt v, lo, H)) = some (.nx, lo', H') := h
  cases e : ex1 L s lo ce b H with
  | none => rw [e] at h; cases h
  | some p =>
   rw [e] at h
   obtain ⟨f, lo1, H1⟩ := p
   cases f with
   | nx => exact ih h
   | rt => cases h
theorem exS_rt {pre : List S} {lo1 : Lo} : ∀ {lo : Lo} {H : St}, exS L pre lo ce b H = some (.rt v, lo1, H1) → exS L (pre ++ rest) lo ce b H = some (.rt v, lo1, H1) := by
 induction pre with
 | nil => intro lo H h; cases h
 | cons s r ih =>
  intro lo H h
  show obX (ex1 L s lo ce b H) (fun lo H => exS L (r ++ rest) lo ce b H) _ = _
  have h : obX (ex1 L s lo ce b H) (fun lo H => exS L r lo ce b H) (fun v lo H => some (.rt v, lo, H)) = some (.rt v, lo1, H1) := h
  cases e : ex1 L s lo ce b H with
  | none => rw [e] at h; cases h
  | some p =>
   rw [e] at h
   obtain ⟨f, lo2, H2⟩ := p
   cases f with
   | nx => exact ih h
   | rt => exact h
theorem ex_if {o : Option (RF × Lo × St)} (e : L.tv c lo ce b H = some (t, H1)) (h : cond t (L.ex T lo ce b H1) (L.ex E lo ce b H1) = o) : ex1 L (.ifs c T E p) lo ce b H = o := by
 show obB (L.tv c lo ce b H) _ _ = _
 rw [e]; exact h
theorem Rt.if_t (e : L.tv c lo ce b H = some (t, H1)) (ht : t = true) (h : Rt (L.ex T lo ce b H1) v H') : Rt (exS L (.ifs c T E p :: rest) lo ce b H) v H' := h.imp fun lo' h => by
 show obX (ex1 L (.ifs c T E p) lo ce b H) _ _ = _
 rw [ex_if e (ht ▸ h : cond t _ _ = some (RF.rt v, lo', H'))]; rfl
theorem Rt.if_f (e : L.tv c lo ce b H = some (t, H1)) (ht : t = false) (h : Rt (exS L rest lo ce b H1) v H') (hx : L.ex [] lo ce b H1 = some (.nx, lo, H1)) : Rt (exS L (.ifs c T [] p :: rest) lo ce b H) v H' := Rt.st (ex_if e (ht ▸ hx)) h
theorem Op.imp {γ : Type} {P P' : γ → Prop} {o : Option γ} (h : Op P o) (k : ∀ r, P r → P' r) : Op P' o := fun r e => k r (h r e)
noncomputable def OR {γ : Type} (f : γ → AV) (H' : St) (R : Option (RF × Lo × St)) (o : Option γ) : Prop := Op (fun r => Rt R (f r) H') o
section
variable {γ : Type} {f : γ → AV} {o o2 : Option γ}
theorem OR.eq {R' : Option (RF × Lo × St)} (e : R = R') (h : OR f H' R' o) : OR f H' R o := e ▸ h
theorem OR.st {s : S} {lo1 : Lo} (e : ex1 L s lo ce b H = some (.nx, lo1, H1)) (h : OR f H' (exS L rest lo1 ce b H1) o) : OR f H' (exS L (s :: rest) lo ce b H) o := OR.eq (exS_nx e) h
theorem OR.ret {a : γ} (e : L.ev x lo ce b H = some (f a, H')) : OR f H' (exS L (.ret x p :: rest) lo ce b H) (some a) := Op.some (Rt.ret e)
theorem OR.rt {n : Nat} {a : γ} (e : (lvl fns n).ev x lo ce b H = some (f a, H')) : OR f H' ((lvl fns (n + 1)).ex (.ret x p :: rest) lo ce b H) (some a) := OR.ret e
theorem OR.cnd (e : L.tv c lo ce b H = some (t, H1)) (h1 : OR f H' (L.ex T lo ce b H1) o) (hx : L.ex [] lo ce b H1 = some (.nx, lo, H1)) (h2 : OR f H' (exS L rest lo ce b H1) o2) : OR f H' (exS L (.ifs c T [] p :: rest) lo ce b H) (cond t o o2) :=
 Op.cnd (fun ht => Op.imp h1 fun _ q => Rt.if_t e ht q) fun ht => Op.imp h2 fun _ q => Rt.if_f e ht q hx
end
theorem ex_ifv {g : AV → Lo} {a a2 : Fl} (e : L.tv c lo ce b H = some (t, H)) (h1 : L.ex T lo ce b H = some (.nx, g (.flt a), H)) (h2 : L.ex E lo ce b H = some (.nx, g (.flt a2), H)) : ex1 L (.ifs c T E p) lo ce b H = some (.nx, g (.flt (cond t a a2)), H) :=
 ex_if e (by cases t; exact h2; exact h1)
theorem bf_int {x : Fl} {i : Int} (e : Fl.trunc x = some i) : bfM .int [.flt x] H = some (.int i, H) := by
 show (ob1 (Fl.trunc x) fun i => some (AV.int i, H)) = _
 rw [e]; rfl
theorem b_fsub {x : Fl} {i : Int} (e : small i = true) : binM .Sub (.flt x) (.int i) H = some (.flt (Fl.sub x (Fl.ofI i)), H) := by
 show gd (small i) _ = _
 rw [e]; rfl
theorem b_fdiv {x y : Fl} (e : (!Fl.zero y) = true) : binM .Div (.flt x) (.flt y) H = some (.flt (Fl.div x y), H) := by
 show gd (!Fl.zero y) _ = _
 rw [e]; rfl
end
noncomputable def hsvT (v f s : Fl) (i : Int) : Option (Fl × Fl × Fl) :=
 cond (eqI i 0) (some (v, Fl.mul v (Fl.sub (.dy 1024) (Fl.mul s (Fl.sub (.dy 1024) f))), Fl.mul v (Fl.sub (.dy 1024) s))) <|
 cond (eqI i 1) (some (Fl.mul v (Fl.sub (.dy 1024) (Fl.mul s f)), v, Fl.mul v (Fl.sub (.dy 1024) s))) <|
 cond (eqI i 2) (some (Fl.mul v (Fl.sub (.dy 1024) s), v, Fl.mul v (Fl.sub (.dy 1024) (Fl.mul s (Fl.sub (.dy 1024) f))))) <|
 cond (eqI i 3) (some (Fl.mul v (Fl.sub (.dy 1024) s), Fl.mul v (Fl.sub (.dy 1024) (Fl.mul s f)), v)) <|
 cond (eqI i 4) (some (Fl.mul v (Fl.sub (.dy 1024) (Fl.mul s (Fl.sub (.dy 1024) f))), Fl.mul v (Fl.sub (.dy 1024) s), v)) <|
 cond (eqI i 5) (some (v, Fl.mul v (Fl.sub (.dy 1024) s), Fl.mul v (Fl.sub (.dy 1024) (Fl.mul s f)))) none
noncomputable def hsvM (h s v : Fl) : Option (Fl × Fl × Fl) := cond (Fl.eq s (.dy 0)) (some (v, v, v)) <| ob1 (Fl.trunc (Fl.mul h (.dy 6144))) fun i => gd (small i) <| hsvT v (Fl.sub (Fl.mul h (.dy 6144)) (Fl.ofI i)) s (Int.fmod i 6)
noncomputable def tupF (r : Fl × Fl × Fl) : AV := .tup [.flt r.1, .flt r.2.1, .flt r.2.2]
theorem hsv_x {h s v : Fl} {b : Nat} {H : St} : OR tupF H (exS (lvl fns 28) b11 [(61, .flt h), (57, .flt s), (65, .flt v)] [] b H) (hsvM h s v) := by
 refine OR.cnd (t := Fl.eq s (.dy 0)) rfl (OR.rt rfl) rfl (Op.ob1 fun i ei => Op.gd fun gi => ?_)
 refine OR.st (x_asg (v_bcall rfl (bf_int ei)) rfl) (OR.st (x_asg (v_bin rfl rfl (b_fsub gi)) rfl) ?_)
 refine OR.eq (R' := exS (lvl fns 28) (b11.drop 7) [(61, .flt h), (57, .flt s), (65, .flt v), (67, .int (Int.fmod i 6)), (68, .flt (Fl.sub (Fl.mul h (.dy 6144)) (Fl.ofI i))), (69, .flt (Fl.mul v (Fl.sub (.dy 1024) s))), (39, .flt (Fl.mul v (Fl.sub (.dy 1024) (Fl.mul s (Fl.sub (Fl.mul h (.dy 6144)) (Fl.ofI i)))))), (70, .flt (Fl.mul v (Fl.sub (.dy 1024) (Fl.mul s (Fl.sub (.dy 1024) (Fl.sub (Fl.mul h (.dy 6144)) (Fl.ofI i)))))))] [] b H) (by kernel_rfl) ?_
 generalize Fl.sub (Fl.mul h (.dy 6144)) (Fl.ofI i) = f
 generalize Int.fmod i 6 = j
 exact OR.cnd (t := eqI j 0) rfl (OR.rt rfl) rfl (OR.cnd (t := eqI j 1) rfl (OR.rt rfl) rfl (OR.cnd (t := eqI j 2) rfl (OR.rt rfl) rfl (OR.cnd (t := eqI j 3) rfl (OR.rt rfl) rfl (OR.cnd (t := eqI j 4) rfl (OR.rt rfl) rfl (OR.cnd (t := eqI j 5) rfl (OR.rt rfl) rfl Op.none)))))
noncomputable def maxF (x y z : Fl) : Fl := cond (Fl.gt z (cond (Fl.gt y x) y x)) z (cond (Fl.gt y x) y x)
noncomputable def minF (x y z : Fl) : Fl := cond (Fl.lt z (cond (Fl.lt y x) y x)) z (cond (Fl.lt y x) y x)
noncomputable def hueC (r g mx rc gc bc : Fl) : Fl := cond (Fl.eq r mx) (Fl.sub bc gc) (cond (Fl.eq g mx) (Fl.sub (Fl.add (.dy 2048) rc) bc) (Fl.sub (Fl.add (.dy 4096) gc) rc))
noncomputable def hueF (h : Fl) : Fl := Fl.mod (Fl.div h (.dy 6144)) (.dy 1024)
noncomputable def rhsvG (r g b mx mn rg : Fl) : Option (Fl × Fl × Fl) := cond (Fl.eq mn mx) (some (.dy 0, .dy 0, mx)) <| gd (!Fl.zero mx) <| gd (!Fl.zero rg) <|
 some (hueF (hueC r g mx (Fl.div (Fl.sub mx r) rg) (Fl.div (Fl.sub mx g) rg) (Fl.div (Fl.sub mx b) rg)), Fl.div rg mx, mx)
noncomputable def rhsvM (r g b : Fl) : Option (Fl × Fl × Fl) := rhsvG r g b (maxF r g b) (minF r g b) (Fl.sub (maxF r g b) (minF r g b))
noncomputable def rhlsG (r g b mx mn rg sc l : Fl) : Option (Fl × Fl × Fl) := cond (Fl.eq mn mx) (some (.dy 0, l, .dy 0)) <|
 ob1 (cond (Fl.le l (.dy 512)) (gd (!Fl.zero sc) <| some (Fl.div rg sc)) (gd (!Fl.zero (Fl.sub (Fl.sub (.dy 2048) mx) mn)) <| some (Fl.div rg (Fl.sub (Fl.sub (.dy 2048) mx) mn)))) fun s => gd (!Fl.zero rg) <|
 some (hueF (hueC r g mx (Fl.div (Fl.sub mx r) rg) (Fl.div (Fl.sub mx g) rg) (Fl.div (Fl.sub mx b) rg)), l, s)
noncomputable def rhlsM (r g b : Fl) : Option (Fl × Fl × Fl) := rhlsG r g b (maxF r g b) (minF r g b) (Fl.sub (maxF r g b) (minF r g b)) (Fl.add (maxF r g b) (minF r g b)) (Fl.div (Fl.add (maxF r g b) (minF r g b)) (.dy 2048))
theorem rhsv_x {r g c : Fl} {b : Nat} {H : St} : OR tupF H (exS (lvl fns 28) b10 [(19, .flt r), (51, .flt g), (10, .flt c)] [] b H) (rhsvM r g c) := by
 refine OR.eq (R' := exS (lvl fns 28) (b10.drop 4) [(19, .flt r), (51, .flt g), (10, .flt c), (52, .flt (maxF r g c)), (53, .flt (minF r g c)), (55, .flt (Fl.sub (maxF r g c) (minF r g c))), (65, .flt (maxF r g c))] [] b H) (by kernel_rfl) ?_
 unfold rhsvM
 generalize Fl.sub (maxF r g c) (minF r g c) = rg
 generalize maxF r g c = mx
 generalize minF r g c = mn
 refine OR.cnd (t := Fl.eq mn mx) rfl (OR.rt rfl) rfl (Op.gd fun z1 => Op.gd fun z2 => ?_)
 refine OR.st (x_asg (v_bin rfl rfl (b_fdiv z1)) rfl) (OR.st (x_asg (v_bin rfl rfl (b_fdiv z2)) rfl) (OR.st (x_asg (v_bin rfl rfl (b_fdiv z2)) rfl) (OR.st (x_asg (v_bin rfl rfl (b_fdiv z2)) rfl) ?_)))
 generalize Fl.div rg mx = s
 generalize Fl.div (Fl.sub mx r) rg = rc
 generalize Fl.div (Fl.sub mx g) rg = gc
 generalize Fl.div (Fl.sub mx c) rg = bc
 refine OR.st (ex_ifv (t := Fl.eq r mx) (g := fun h => [(19, .flt r), (51, .flt g), (10, .flt c), (52, .flt mx), (53, .flt mn), (55, .flt rg), (65, .flt mx), (57, .flt s), (58, .flt rc), (59, .flt gc), (60, .flt bc), (61, h)]) rfl rfl (exS_nx (ex_ifv (t := Fl.eq g mx) (g := fun h => [(19, .flt r), (51, .flt g), (10, .flt c), (52, .flt mx), (53, .flt mn), (55, .flt rg), (65, .flt mx), (57, .flt s), (58, .flt rc), (59, .flt gc), (60, .flt bc), (61, h)]) rfl rfl rfl))) ?_
 exact OR.st (lo1 := [(19, .flt r), (51, .flt g), (10, .flt c), (52, .flt mx), (53, .flt mn), (55, .flt rg), (65, .flt mx), (57, .flt s), (58, .flt rc), (59, .flt gc), (60, .flt bc), (61, .flt (hueF (hueC r g mx rc gc bc)))]) rfl (OR.ret rfl)
theorem rhls_x {r g c : Fl} {b : Nat} {H : St} : OR tupF H (exS (lvl fns 28) b9 [(19, .flt r), (51, .flt g), (10, .flt c)] [] b H) (rhlsM r g c) := by
 refine OR.eq (R' := exS (lvl fns 28) (b9.drop 5) [(19, .flt r), (51, .flt g), (10, .flt c), (52, .flt (maxF r g c)), (53, .flt (minF r g c)), (54, .flt (Fl.add (maxF r g c) (minF r g c))), (55, .flt (Fl.sub (maxF r g c) (minF r g c))), (56, .flt (Fl.div (Fl.add (maxF r g c) (minF r g c)) (.dy 2048)))] [] b H) (by kernel_rfl) ?_
 unfold rhlsM
 generalize Fl.div (Fl.add (maxF r g c) (minF r g c)) (.dy 2048) = l
 generalize Fl.add (maxF r g c) (minF r g c) = sc
 generalize Fl.sub (maxF r g c) (minF r g c) = rg
 generalize maxF r g c = mx
 generalize minF r g c = mn
 refine OR.cnd (t := Fl.eq mn mx) rfl (OR.rt rfl) rfl (Op.ob1 fun s es => Op.gd fun z2 => ?_)
 refine OR.st (ex_if (t := Fl.le l (.dy 512)) (o := some (.nx, [(19, .flt r), (51, .flt g), (10, .flt c), (52, .flt mx), (53, .flt mn), (54, .flt sc), (55, .flt rg), (56, .flt l), (57, .flt s)], H)) rfl ?_) ?_
 ·cases hl : Fl.le l (.dy 512) with
  | true =>
   rw [hl] at es
   obtain ⟨z, es⟩ := gd_inv es
   obtain rfl := sI1 es
   exact exS_nx (L := lvl fns 27) (x_asg (v_bin rfl rfl (b_fdiv z)) rfl)
  | false =>
   rw [hl] at es
   obtain ⟨z, es⟩ := gd_inv es
   obtain rfl := sI1 es
   exact exS_nx (L := lvl fns 27) (x_asg (v_bin rfl rfl (b_fdiv z)) rfl)
 refine OR.st (x_asg (v_bin rfl rfl (b_fdiv z2)) rfl) (OR.st (x_asg (v_bin rfl rfl (b_fdiv z2)) rfl) (OR.st (x_asg (v_bin rfl rfl (b_fdiv z2)) rfl) ?_))
 generalize Fl.div (Fl.sub mx r) rg = rc
 generalize Fl.div (Fl.sub mx g) rg = gc
 generalize Fl.div (Fl.sub mx c) rg = bc
 refine OR.st (ex_ifv (t := Fl.eq r mx) (g := fun h => [(19, .flt r), (51, .flt g), (10, .flt c), (52, .flt mx), (53, .flt mn), (54, .flt sc), (55, .flt rg), (56, .flt l), (57, .flt s), (58, .flt rc), (59, .flt gc), (60, .flt bc), (61, h)]) rfl rfl (exS_nx (ex_ifv (t := Fl.eq g mx) (g := fun h => [(19, .flt r), (51, .flt g), (10, .flt c), (52, .flt mx), (53, .flt mn), (54, .flt sc), (55, .flt rg), (56, .flt l), (57, .flt s), (58, .flt rc), (59, .flt gc), (60, .flt bc), (61, h)]) rfl rfl rfl))) ?_
 exact OR.st (lo1 := [(19, .flt r), (51, .flt g), (10, .flt c), (52, .flt mx), (53, .flt mn), (54, .flt sc), (55, .flt rg), (56, .flt l), (57, .flt s), (58, .flt rc), (59, .flt gc), (60, .flt bc), (61, .flt (hueF (hueC r g mx rc gc bc)))]) rfl (OR.ret rfl)
theorem cl_run {P : List Fn} {L : Lvl} {f : Nat} {fn : Fn} {vs : List AV} {ks binds : List (Nat × AV)} {b : Nat} {H H3 : St} {lo : Lo} {v : AV} (h1 : nth P f = some fn) (h2 : bindM fn vs ks = some binds) (h3 : cellsM fn.kd [] H = ([], H)) (h4 : storeAll binds [] [] H.length H = some (lo, H)) (hp : fn.pure = true)
  (h5 : Rt (L.ex fn.body lo [] H.length H) v H3) (h6 : home H.length H3 v = some (v, [], [])) : clS P L f vs ks b H = some (v, H) := by
 obtain ⟨lo', e⟩ := h5
 show ob1 (nth P f) _ = _
 rw [h1]
 show ob1 (bindM fn vs ks) _ = _
 rw [h2]
 show cond fn.pure (ob2 (ob2 (storeAll binds [] (cellsM fn.kd [] H).1 H.length (cellsM fn.kd [] H).2) _) _) _ = _
 rw [hp, h3]
 show ob2 (ob2 (storeAll binds [] [] H.length H) _) _ = _
 rw [h4]
 show ob2 (obX (L.ex fn.body lo [] H.length H) _ _) _ = _
 rw [e]
 show ob1 (home H.length H3 v) _ = _
 rw [h6]
 exact congrArg (fun l => some (v, l)) (List.append_nil H)
theorem hsv_c {h s v : Fl} {b : Nat} {H : St} : Op (fun r => (lvl fns 30).cl 11 [.flt h, .flt s, .flt v] [] b H = some (tupF r, H)) (hsvM h s v) := fun r e => by
 have hx : Rt ((lvl fns 29).ex f11.body [(61, .flt h), (57, .flt s), (65, .flt v)] [] H.length H) (tupF r) H := hsv_x r e
 show clS fns (lvl fns 29) 11 [.flt h, .flt s, .flt v] [] b H = some (tupF r, H)
 exact cl_run (fn := f11) (binds := [(61, .flt h), (57, .flt s), (65, .flt v)]) (lo := [(61, .flt h), (57, .flt s), (65, .flt v)]) rfl rfl rfl rfl rfl hx rfl
theorem rhsv_c {h s v : Fl} {b : Nat} {H : St} : Op (fun r => (lvl fns 30).cl 10 [.flt h, .flt s, .flt v] [] b H = some (tupF r, H)) (rhsvM h s v) := fun r e => by
 have hx : Rt ((lvl fns 29).ex f10.body [(19, .flt h), (51, .flt s), (10, .flt v)] [] H.length H) (tupF r) H := rhsv_x r e
 show clS fns (lvl fns 29) 10 [.flt h, .flt s, .flt v] [] b H = some (tupF r, H)
 exact cl_run (fn := f10) (binds := [(19, .flt h), (51, .flt s), (10, .flt v)]) (lo := [(19, .flt h), (51, .flt s), (10, .flt v)]) rfl rfl rfl rfl rfl hx rfl
theorem rhls_c {h s v : Fl} {b : Nat} {H : St} : Op (fun r => (lvl fns 30).cl 9 [.flt h, .flt s, .flt v] [] b H = some (tupF r, H)) (rhlsM h s v) := fun r e => by
 have hx : Rt ((lvl fns 29).ex f9.body [(19, .flt h), (51, .flt s), (10, .flt v)] [] H.length H) (tupF r) H := rhls_x r e
 show clS fns (lvl fns 29) 9 [.flt h, .flt s, .flt v] [] b H = some (tupF r, H)
 exact cl_run (fn := f9) (binds := [(19, .flt h), (51, .flt s), (10, .flt v)]) (lo := [(19, .flt h), (51, .flt s), (10, .flt v)]) rfl rfl rfl rfl rfl hx rfl
theorem nth_last {α : Type} (l : List α) (x : α) : nth (l ++ [x]) l.length = some x := by
 induction l with
 | nil => rfl
 | cons a r ih => exact ih
theorem setN_last {α : Type} (l : List α) (x y : α) : setN y (l ++ [x]) l.length = l ++ [y] := by
 induction l with
 | nil => rfl
 | cons a r ih => exact congrArg (a :: ·) ih
theorem erase_last {α : Type} (l : List α) (x : α) : (l ++ [x]).eraseIdx l.length = l := by
 induction l with
 | nil => rfl
 | cons a r ih => exact congrArg (a :: ·) ih
theorem nth_none {α : Type} (l : List α) : nth l l.length = none := by
 induction l with
 | nil => rfl
 | cons a r ih => exact ih
theorem nth_mid {α : Type} (l r : List α) (x : α) : nth (l ++ x :: r) l.length = some x := by
 induction l with
 | nil => rfl
 | cons a r ih => exact ih
theorem getLst_last (H : St) (xs : List AV) : getLst (H ++ [.lst xs]) H.length = some xs := by
 unfold getLst; rw [nth_last]
theorem ble_self (n : Nat) : Nat.ble n n = true := Nat.ble_eq_true_of_le (Nat.le_refl n)
theorem ltI_cast (k : Nat) : ltI (k : Int) 0 = false := by
 cases h : ltI (k : Int) 0 with
 | false => rfl
 | true => exact absurd ((W.Z.ltB_iff _ _).mp h) (Int.not_lt.mpr (Int.natCast_nonneg k))
theorem smallL_map {α β : Type} (f : α → β) (l : List α) : smallL (l.map f) = smallL l := by
 unfold smallL; rw [List.length_map]
theorem smallL_le {α β : Type} {xs : List α} {ys : List β} (h : smallL xs = true) (hl : ys.length ≤ xs.length) : smallL ys = true :=
 Nat.ble_eq_true_of_le (Nat.le_trans (Nat.succ_le_succ hl) (Nat.le_of_ble_eq_true h))
theorem and_all {a b : Bool} (h : (a && b) = true) : a = true ∧ b = true := Bool.and_eq_true_iff.mp h
theorem ixOf_nat {k n : Nat} (h : k < n) : ixOf k n = some k := by
 unfold ixOf
 rw [ltI_cast, show ltI (k : Int) n = true from (W.Z.ltB_iff _ _).mpr (Int.ofNat_lt.mpr h)]; rfl
theorem ixOf_0 (n : Nat) : ixOf 0 (n + 1) = some 0 := ixOf_nat (k := 0) (Nat.succ_pos n)
theorem blt_le {n m k : Nat} (h : Nat.blt n m = true) (l : k ≤ n) : Nat.blt k m = true := Nat.ble_eq_true_of_le (Nat.le_trans (Nat.succ_le_succ l) (Nat.le_of_ble_eq_true h))
theorem ixOf_neg1 (n : Nat) : ixOf (-1) (n + 1) = some n := by
 unfold ixOf
 rw [show ltI (-1) 0 = true from rfl, show leI (-((n + 1 : Nat) : Int)) (-1) = true from (W.Z.leB_iff _ _).mpr (by omega)]
 exact congrArg some (by omega)
section
variable {cl : Nat → List AV → List (Nat × AV) → Nat → St → Option (AV × St)} {L : Lvl} {b k i j n : Nat} {lo lo' : Lo} {ce : Ce} {H H1 H2 H3 H' : St} {u v w : AV} {l r x y o c : X} {p q kp : Pos} {z : AV × St} {rest T E : List S} {t : Bool} {R : Option (RF × Lo × St)} {vs ws : List AV} {xs : List X} {s s2 : List Nat} {m : MF} {a d : Int}
theorem v_idx (e1 : L.ev o lo ce b H = some (u, H1)) (e2 : L.ev x lo ce b H1 = some (w, H2)) (e3 : idxM u w H2 = some v) : (up cl L).ev (.idx o x p) lo ce b H = some (v, H2) := by
 show ob2 (L.ev o lo ce b H) (fun u H => ob2 (L.ev x lo ce b H) fun v H => ob1 (idxM u v H) fun v => some (v, H)) = _
 rw [e1]; show ob2 (L.ev x lo ce b H1) _ = _; rw [e2]; show ob1 (idxM u w H2) _ = _; rw [e3]; rfl
theorem v_mcall (e1 : L.ev o lo ce b H = some (u, H1)) (er : recvM m u H1 = some ()) (e2 : evs (fun x H => L.ev x lo ce b H) xs H1 = some (vs, H2)) (e3 : mfM m u vs b H2 = some z) : (up cl L).ev (.mcall m o xs q p) lo ce b H = some z := by
 show ob2 (L.ev o lo ce b H) (fun u H => ob1 (recvM m u H) fun _ => ob2 (evs (fun x H => L.ev x lo ce b H) xs H) fun vs H => mfM m u vs b H) = _
 rw [e1]; show ob1 (recvM m u H1) _ = _; rw [er]; show ob2 (evs (fun x H => L.ev x lo ce b H) xs H1) _ = _; rw [e2]; exact e3
theorem v_cmp {op : CmpOp} (e1 : L.ev l lo ce b H = some (u, H1)) (e2 : L.ev r lo ce b H1 = some (w, H2)) (e3 : cmpM op u w H2 = some t) : (up cl L).tv (.cmp l op r p) lo ce b H = some (t, H2) := by
 show ob2 (L.ev l lo ce b H) (fun u H => ob2 (L.ev r lo ce b H) fun v H => ob1 (cmpM op u v H) fun t => some (t, H)) = _
 rw [e1]; show ob2 (L.ev r lo ce b H1) _ = _; rw [e2]; show ob1 (cmpM op u w H2) _ = _; rw [e3]; rfl
theorem t_of {x : X} (e : L.ev x lo ce b H = some (u, H1)) (e2 : truthM u H1 = some t) : ob2 (L.ev x lo ce b H) (fun v H => ob1 (truthM v H) fun t => some (t, H)) = some (t, H1) := by
 rw [e]; show ob1 (truthM u H1) _ = _; rw [e2]; rfl
theorem t_var (e : L.ev (.var k p) lo ce b H = some (u, H1)) (e2 : truthM u H1 = some t) : (up cl L).tv (.var k p) lo ce b H = some (t, H1) := t_of e e2
theorem t_mc (e : L.ev (.mcall m o xs q p) lo ce b H = some (u, H1)) (e2 : truthM u H1 = some t) : (up cl L).tv (.mcall m o xs q p) lo ce b H = some (t, H1) := t_of e e2
theorem x_deli (e1 : L.ev o lo ce b H = some (.ref j, H1)) (e2 : L.ev x lo ce b H1 = some (.int a, H2)) (g : getLst H2 j = some vs) (h1 : Nat.ble b j = true) (h2 : smallL vs = true) (h3 : smallI a = true) (h4 : ixOf a vs.length = some n) :
  ex1 L (.deli o x q p) lo ce b H = some (.nx, lo, setN (.lst (vs.eraseIdx n)) H2 j) := by
 show ob2 (L.ev o lo ce b H) (fun u H => ob2 (L.ev x lo ce b H) fun w H => asI w fun k => ob2 (setM b H u fun xs => gd (smallI k) <| ob1 (ixOf k xs.length) fun n => some (xs.eraseIdx n)) fun _ H => some (RF.nx, lo, H)) = _
 rw [e1]; show ob2 (L.ev x lo ce b H1) _ = _; rw [e2]
 show ob2 (ob1 (getLst H2 j) _) _ = _
 rw [g]
 show ob2 (gd (Nat.ble b j && smallL vs) (ob1 (gd (smallI a) (ob1 (ixOf a vs.length) _)) _)) _ = _
 rw [h1, h2, h3, h4]; rfl
theorem Rt.if_r {v : AV} {H' : St} (e : L.tv c lo ce b H = some (t, H1)) (ht : t = true) (h : Rt (L.ex T lo ce b H1) v H') : Rt (exS L (.ifs c T E p :: rest) lo ce b H) v H' := h.imp fun lo' h => by
 show obX (ex1 L (.ifs c T E p) lo ce b H) _ _ = _
 rw [ex_if e (ht ▸ h : cond t _ _ = some (RF.rt v, lo', H'))]; rfl
theorem exS_rt1 {s : S} {lo1 : Lo} (e : ex1 L s lo ce b H = some (.rt v, lo1, H1)) : exS L (s :: rest) lo ce b H = some (.rt v, lo1, H1) := by
 show obX (ex1 L s lo ce b H) _ _ = _
 rw [e]; rfl
theorem b_lenS (h : smallL s = true) : bfM .len [.str s] H = some (.int s.length, H) := by
 show alt (gd (smallL s) _) _ = _
 rw [h]; rfl
theorem b_lenL (h : getLst H j = some vs) (h2 : smallL vs = true) : bfM .len [.ref j] H = some (.int vs.length, H) := by
 show ob1 (getLst H j) _ = _
 rw [h]; show gd (smallL vs) _ = _; rw [h2]; rfl
theorem tr_s (h : smallL s = true) : truthM (.str s) H = some (!s.isEmpty) := by
 show alt (gd (smallL s) _) _ = _
 rw [h]; rfl
theorem ix_l (h : getLst H j = some vs) (h2 : smallL vs = true) (h3 : smallI a = true) (h4 : ob1 (ixOf a vs.length) (nth vs) = some v) : idxM (.ref j) (.int a) H = some v := by
 show gd (smallI a) (alt (ob1 (getLst H j) _) _) = _
 rw [h3, h]; show alt (gd (smallL vs) _) _ = _; rw [h2]; show alt (ob1 (ixOf a vs.length) (nth vs)) _ = _; rw [h4]; rfl
noncomputable def forF (L : Lvl) (t : Tg) (body : List S) (ce : Ce) (b : Nat) (v : AV) (a : RF × Lo × St) : Option ((RF × Lo × St) × Bool) :=
 ob2 (asgM t v a.2.1 ce b a.2.2) fun lo H => obX (L.ex body lo ce b H) (fun lo H => some ((.nx, lo, H), true)) fun v lo H => some ((.rt v, lo, H), false)
theorem ex_fors {t : Tg} {it : It} {body : List S} {s : Src} (h : itM (fun x H => L.ev x lo ce b H) it H = some (s, H1)) :
  ex1 L (.fors t it body p) lo ce b H = turns (·.2.2) (forF L t body ce b) s MAXT 0 (.nx, lo, H1) := by
 show ob2 (itM (fun x H => L.ev x lo ce b H) it H) (fun s H => turns (·.2.2) (forF L t body ce b) s MAXT 0 (.nx, lo, H)) = _
 rw [h]; rfl
end
section
variable {α : Type} {H0 : α → St} {f : AV → α → Option (α × Bool)} {s : Src} {items : List AV}
theorem turns_go (R : Option α → Prop) (P : List AV → α → Prop) (hs : ∀ r a k, P r a → srcAt (H0 a) s k = some (nth items k)) (h0 : ∀ a, P [] a → R (some a))
  (h1 : ∀ x r a, P (x :: r) a → (∃ a', f x a = some (a', false) ∧ R (some a')) ∨ ∃ a', f x a = some (a', true) ∧ P r a') (rest : List AV) : ∀ (done : List AV) (c : Nat) (a : α), items = done ++ rest → Nat.blt rest.length c = true → P rest a → R (turns H0 f s c done.length a) := by
 induction rest with
 | nil =>
  intro done c a e l p
  cases c with
  | zero => exact absurd l nofun
  | succ c =>
   show R (ob1 (srcAt (H0 a) s done.length) _)
   rw [hs _ _ _ p, e, List.append_nil, nth_none]
   exact h0 a p
 | cons x r ih =>
  intro done c a e l p
  cases c with
  | zero => exact absurd l nofun
  | succ c =>
   show R (ob1 (srcAt (H0 a) s done.length) _)
   rw [hs _ _ _ p, e, nth_mid]
   show R (ob2 (f x a) _)
   refine (h1 x r a p).elim (fun q => q.elim fun a' q => ?_) fun q => q.elim fun a' q => ?_
   ·rw [q.1]; exact q.2
   ·rw [q.1]
    have := ih (done ++ [x]) c a' (by rw [e, List.append_assoc]; rfl) l q.2
    rw [List.length_append] at this
    exact this
end
noncomputable def RtV (o : Option (RF × Lo × St)) (v : AV) : Prop := ∃ H, Rt o v H
noncomputable def OV (R : Option (RF × Lo × St)) (o : Option Bool) : Prop := Op (fun t => RtV R (.bool t)) o
section
variable {L : Lvl} {b k i : Nat} {lo lo1 : Lo} {ce : Ce} {H H1 : St} {s : S} {rest : List S} {o : Option Bool} {R R' : Option (RF × Lo × St)} {t : Bool}
theorem OV.eq (e : R = R') (h : OV R' o) : OV R o := e ▸ h
theorem OV.st (e : ex1 L s lo ce b H = some (.nx, lo1, H1)) (h : OV (exS L rest lo1 ce b H1) o) : OV (exS L (s :: rest) lo ce b H) o := OV.eq (exS_nx e) h
theorem OV.rt (e : ex1 L s lo ce b H = some (.rt (.bool t), lo1, H1)) : OV (exS L (s :: rest) lo ce b H) (some t) := Op.some ⟨H1, lo1, by
 show obX (ex1 L s lo ce b H) _ _ = _
 rw [e]; rfl⟩
end
noncomputable def dots : List Nat := [46, 46, 46]
noncomputable def ellG (g w : List Nat) (s e : Int) : Bool := smallL g && (leI 0 s && (leI s e && leI e g.length))
noncomputable def ellLoop (g : List Nat) (e : Int) : List (List Nat) → Int → Option Bool
 | [], _ => some true
 | w :: r, s => gd (ellG g w s e) <| (findL g w s.toNat e.toNat).elim (some false) fun k => ellLoop g e r (k + w.length)
noncomputable def ellEnd (g : List Nat) (e s : Int) (ws : List (List Nat)) : Option Bool := cond (ltI e s) (some false) (ellLoop g e ws s)
noncomputable def ellTail (g : List Nat) (s : Int) (ws : List (List Nat)) : Option Bool := ob1 ws.getLast? fun p => cond (!p.isEmpty) (cond (pre p.reverse g.reverse) (ellEnd g (g.length - p.length) s ws.dropLast) (some false)) (ellEnd g g.length s ws)
noncomputable def ellHead (g : List Nat) (ws : List (List Nat)) : Option Bool := ob1 ws.head? fun p => cond (!p.isEmpty) (cond (pre p g) (ellTail g p.length ws.tail) (some false)) (ellTail g 0 ws)
noncomputable def ellS (w : List Nat) : List (List Nat) := splitL dots w.length [] w
noncomputable def ellC (g w : List Nat) : Bool := smallL w && (smallL g && (smallL (ellS w) && ((ellS w).all smallL && (leI 2 (ellS w).length && Nat.blt (ellS w).length 99))))
noncomputable def ellO (w g : List Nat) : Option Bool := cond (!isIn dots w) (some (eqL w g)) (gd (ellC g w) (ellHead g (ellS w)))
noncomputable def loE (w g : List Nat) (i : Nat) (e s : Int) (x : List Nat) : Lo := [(0, .str w), (1, .str g), (3, .ref i), (5, .int e), (4, .int s), (6, .str x)]
noncomputable def ellB : List S := [
 (.asg (.name 4 ⟨26,8,26,16⟩) (.mcall .find (.var 1 ⟨26,19,26,22⟩) [(.var 6 ⟨26,28,26,29⟩), (.var 4 ⟨26,31,26,39⟩), (.var 5 ⟨26,41,26,47⟩)] ⟨26,19,26,27⟩ ⟨26,19,26,48⟩) ⟨26,8,26,48⟩),
 (.ifs (.cmp (.var 4 ⟨27,11,27,19⟩) .Lt (.cst (.int 0) (.int 0) ⟨27,22,27,23⟩) ⟨27,11,27,23⟩) [(.ret (.cst (.bool false) (.bool false) ⟨28,19,28,24⟩) ⟨28,12,28,24⟩)] [] ⟨27,8,28,24⟩),
 (.aug 4 ⟨29,8,29,16⟩ .Add (.bcall .len [(.var 6 ⟨29,24,29,25⟩)] ⟨29,20,29,23⟩ ⟨29,20,29,26⟩) ⟨29,8,29,26⟩)]
section
variable {b : Nat} {w g p x : List Nat} {i k : Nat} {e s y : Int} {H : St} {ws : List (List Nat)} {L : Lvl} {lo : Lo} {ce : Ce} {kp pp q r : Pos}
theorem mf_find (h : ellG g w s e = true) : mfM .find (.str g) [.str w, .int s, .int e] b H = some (.int ((findL g w s.toNat e.toNat).elim (-1) fun k => k), H) := by
 have e : mfM .find (.str g) [.str w, .int s, .int e] b H = gd (ellG g w s e) (some (.int (match findL g w s.toNat e.toNat with | some k => k | none => -1), H)) := rfl
 rw [e, h]
 cases findL g w s.toNat _ <;> rfl
theorem ell_find (h : ellG g p s e = true) : exS (lvl fns 27) ellB (loE w g i e s p) [] b H = exS (lvl fns 27) (ellB.drop 1) (loE w g i e ((findL g p s.toNat e.toNat).elim (-1) fun k => k) p) [] b H :=
 exS_nx (x_asg (v_mcall rfl rfl rfl (mf_find h)) rfl)
theorem ell_body (hp : smallL p = true) (h : ellG g p s e = true) : (lvl fns 28).ex ellB (loE w g i e s p) [] b H = (findL g p s.toNat e.toNat).elim (some (.rt (.bool false), loE w g i e (-1) p, H)) fun k => some (.nx, loE w g i e (k + p.length) p, H) := by
 show exS (lvl fns 27) ellB (loE w g i e s p) [] b H = _
 refine (ell_find h).trans ?_
 cases findL g p s.toNat e.toNat with
 | none => rfl
 | some k =>
  refine Eq.trans (exS_nx (ex_if (t := false) (v_cmp rfl rfl (congrArg some (ltI_cast k))) rfl)) ?_
  refine exS_nx ?_
  show ob2 ((lvl fns 27).ev _ (loE w g i e k p) [] b H) _ = _
  rw [show (lvl fns 27).ev (.bcall .len [(.var 6 ⟨29,24,29,25⟩)] ⟨29,20,29,23⟩ ⟨29,20,29,26⟩) (loE w g i e k p) [] b H = some (.int p.length, H) from v_bcall rfl (b_lenS hp)]
  rfl
theorem ell_end (hi : getLst H i = some (ws.map .str)) (hs : smallL ws = true) (hp : ws.all smallL = true) (hl : Nat.blt ws.length 100 = true) :
  OV (exS (lvl fns 28) (b0.drop 8) (loE w g i e s x) [] b H) (ellEnd g e s ws) := by
 refine Op.cnd (fun h => ?_) fun h t et => ?_
 ·exact OV.rt (ex_if (t := true) (v_cmp rfl rfl (congrArg some h)) rfl)
 have h1 : exS (lvl fns 28) (b0.drop 8) (loE w g i e s x) [] b H = exS (lvl fns 28) (b0.drop 9) (loE w g i e s x) [] b H := exS_nx (ex_if (t := false) (v_cmp rfl rfl (congrArg some h)) rfl)
 have h2 : itM (fun x_1 H => (lvl fns 28).ev x_1 (loE w g i e s x) [] b H) (.pl (.var 3 ⟨25,13,25,15⟩)) H = some (.lst i, H) := by
  show ob1 (alt (alt (ob1 (getLst H i) _) _) _) _ = _
  rw [hi]; rfl
 rw [h1]
 show RtV (obX (ex1 (lvl fns 28) _ (loE w g i e s x) [] b H) _ _) _
 rw [ex_fors h2]
 refine turns_go (items := ws.map .str) (fun o => RtV (obX o (fun lo H => exS (lvl fns 28) (b0.drop 10) lo [] b H) fun v lo H => some (.rt v, lo, H)) (.bool t))
  (fun r a => ∃ ws s x, r = ws.map .str ∧ ws.all smallL = true ∧ a = (.nx, loE w g i e s x, H) ∧ ellLoop g e ws s = some t) ?_ ?_ ?_ (ws.map .str) [] 100 _ rfl (by rw [List.length_map]; exact hl) ⟨ws, s, x, rfl, hp, rfl, et⟩
 ·rintro r a k ⟨_, _, _, _, _, rfl, _⟩
  show ob1 (getLst H i) _ = _
  rw [hi]; show gd (smallL _) _ = _; rw [smallL_map, hs]; rfl
 ·rintro a ⟨ws, s, x, e1, _, rfl, e2⟩
  cases ws with
  | cons => exact nomatch e1
  | nil =>
   obtain rfl := sI1 e2
   exact ⟨H, loE w g i e s x, rfl⟩
 ·rintro y r a ⟨ws, s, x, e1, hp, rfl, e2⟩
  cases ws with
  | nil => exact nomatch e1
  | cons p q =>
   obtain ⟨rfl, rfl⟩ := List.cons.inj e1
   obtain ⟨hp1, hp2⟩ := and_all hp
   obtain ⟨hc, e2⟩ := gd_inv e2
   have eb := ell_body (b := b) (w := w) (i := i) (H := H) hp1 hc
   have ef : forF (lvl fns 28) (.name 6 ⟨25,8,25,9⟩) ellB [] b (.str p) (.nx, loE w g i e s x, H) = obX ((lvl fns 28).ex ellB (loE w g i e s p) [] b H) (fun lo H => some ((.nx, lo, H), true)) fun v lo H => some ((.rt v, lo, H), false) := rfl
   rw [eb] at ef
   cases hf : findL g p s.toNat e.toNat with
   | none =>
    rw [hf] at e2 ef
    obtain rfl := sI1 e2
    exact .inl ⟨_, ef, H, _, rfl⟩
   | some k =>
    rw [hf] at e2 ef
    exact .inr ⟨_, ef, q, _, p, rfl, hp2, rfl, e2⟩
theorem ix_last (hs : smallL (ws.map AV.str) = true) (hi : getLst H i = some (ws.map .str)) (h : ws.getLast? = some p) : idxM (.ref i) (.int (-1)) H = some (.str p) := by
 obtain ⟨init, rfl⟩ := List.getLast?_eq_some_iff.mp h
 rw [List.map_append] at hi hs
 refine ix_l hi hs rfl ?_
 rw [List.length_append, show ([p].map AV.str).length = 1 from rfl, ixOf_neg1]
 exact nth_last _ _
theorem x_aug {e : X} (h1 : lkp k lo = some (.int s)) (h2 : L.ev e lo ce b H = some (.int y, H)) : ex1 L (.aug k kp .Sub e pp) lo ce b H = some (.nx, setL k (.int (s - y)) lo, H) := by
 show ob1 (lkp k lo) _ = _
 rw [h1]; show ob2 (L.ev e lo ce b H) _ = _; rw [h2]; rfl
theorem del_last (hs : smallL (ws.map AV.str) = true) (h : ws.getLast? = some p) {o x : X} {lo : Lo} (e1 : L.ev o lo ce H.length (H ++ [.lst (ws.map .str)]) = some (.ref H.length, H ++ [.lst (ws.map .str)])) (e2 : L.ev x lo ce H.length (H ++ [.lst (ws.map .str)]) = some (.int (-1), H ++ [.lst (ws.map .str)])) :
  ex1 L (.deli o x q r) lo ce H.length (H ++ [.lst (ws.map .str)]) = some (.nx, lo, H ++ [.lst (ws.dropLast.map .str)]) := by
 obtain ⟨init, rfl⟩ := List.getLast?_eq_some_iff.mp h
 have e3 : (init ++ [p]).map AV.str = init.map .str ++ [.str p] := List.map_append
 rw [e3] at hs e1 e2 ⊢
 refine (x_deli (n := (init.map AV.str).length) e1 e2 (getLst_last _ _) (ble_self _) hs rfl ?_).trans ?_
 ·rw [List.length_append]; exact ixOf_neg1 _
 ·rw [setN_last, erase_last, List.dropLast_concat]
theorem ell_tail (hg : smallL g = true) (hs : smallL ws = true) (hp : ws.all smallL = true) (hl : Nat.blt ws.length 100 = true) :
  OV (exS (lvl fns 28) (b0.drop 6) (loE w g H.length g.length s x) [] H.length (H ++ [.lst (ws.map .str)])) (ellTail g s ws) := by
 have hx : smallL (ws.map AV.str) = true := by rw [smallL_map]; exact hs
 refine Op.ob1 fun p ep => ?_
 have hpp : smallL p = true := List.all_eq_true.mp hp p (List.mem_of_getLast? ep)
 refine OV.st (lo1 := loE w g H.length g.length s p) (x_asg (v_idx rfl rfl (ix_last hx (getLst_last _ _) ep)) rfl) ?_
 have ht : (lvl fns 28).tv (.var 6 ⟨17,7,17,8⟩) (loE w g H.length g.length s p) [] H.length (H ++ [.lst (ws.map .str)]) = some (!p.isEmpty, H ++ [.lst (ws.map .str)]) := t_var rfl (tr_s hpp)
 refine Op.cnd (fun h => ?_) fun h => ?_ <;> rw [h] at ht
 ·refine Op.cnd (fun hq => ?_) fun hq => ?_
  ·have hd : ws.dropLast.length ≤ ws.length := by rw [List.length_dropLast]; exact Nat.sub_le _ _
   refine OV.st (lo1 := loE w g H.length (g.length - p.length) s p) (H1 := H ++ [.lst (ws.dropLast.map .str)]) (ex_if ht ?_) (ell_end (getLst_last _ _) (smallL_le hs hd) ?_ ?_)
   ·refine exS_nx (ex_if (t := true) (t_mc (u := .bool (pre p.reverse g.reverse)) rfl (congrArg some hq)) ?_)
    show exS (lvl fns 26) _ _ _ _ _ = _
    exact Eq.trans (exS_nx (x_aug rfl (v_bcall rfl (b_lenS hpp)))) (exS_nx (del_last hx ep rfl rfl))
   ·exact List.all_eq_true.mpr fun a ha => List.all_eq_true.mp hp a (List.dropLast_subset _ ha)
   ·exact Nat.ble_eq_true_of_le (Nat.le_trans (Nat.succ_le_succ hd) (Nat.le_of_ble_eq_true hl))
  ·exact OV.rt (ex_if ht (exS_rt1 (ex_if (t := false) (t_mc (u := .bool (pre p.reverse g.reverse)) rfl (congrArg some hq)) rfl)))
 ·exact OV.st (ex_if ht rfl) (ell_end (getLst_last _ _) hs hp hl)
theorem ell_head (hg : smallL g = true) (hs : smallL ws = true) (hp : ws.all smallL = true) (hl : Nat.blt ws.length 100 = true) :
  OV (exS (lvl fns 28) (b0.drop 4) ((loE w g H.length g.length 0 []).take 5) [] H.length (H ++ [.lst (ws.map .str)])) (ellHead g ws) := by
 cases ws with
 | nil => exact Op.none
 | cons p ws =>
 have hx : smallL ((p :: ws).map AV.str) = true := by rw [smallL_map]; exact hs
 obtain ⟨hpp, hp2⟩ := and_all hp
 have e0 : idxM (.ref H.length) (.int 0) (H ++ [.lst ((p :: ws).map .str)]) = some (.str p) := ix_l (getLst_last _ _) hx rfl (by show ob1 (ixOf 0 ((ws.map AV.str).length + 1)) _ = _; rw [ixOf_0]; rfl)
 refine OV.st (lo1 := loE w g H.length g.length 0 p) (x_asg (v_idx rfl rfl e0) rfl) ?_
 have ht : (lvl fns 28).tv (.var 6 ⟨10,7,10,8⟩) (loE w g H.length g.length 0 p) [] H.length (H ++ [.lst ((p :: ws).map .str)]) = some (!p.isEmpty, H ++ [.lst ((p :: ws).map .str)]) := t_var rfl (tr_s hpp)
 refine Op.cnd (fun h => ?_) fun h => ?_ <;> rw [h] at ht
 ·refine Op.cnd (fun hq => ?_) fun hq => ?_
  ·refine OV.st (lo1 := loE w g H.length g.length p.length p) (H1 := H ++ [.lst (ws.map .str)]) (ex_if ht ?_) ?_
   rotate_left
   ·have ha : smallL ws = true := smallL_le hs (Nat.le_succ _)
    have hb : Nat.blt ws.length 100 = true := blt_le hl (Nat.le_succ _)
    exact ell_tail hg ha hp2 hb
   refine exS_nx (ex_if (t := true) (t_mc (u := .bool (pre p g)) rfl (congrArg some hq)) ?_)
   show exS (lvl fns 26) _ _ _ _ _ = _
   refine Eq.trans (exS_nx (x_asg (v_bcall rfl (b_lenS hpp)) rfl)) (exS_nx ((x_deli (n := 0) rfl rfl (getLst_last _ _) (ble_self _) hx rfl ?_).trans ?_))
   ·exact ixOf_0 _
   ·rw [setN_last]; rfl
  ·exact OV.rt (ex_if ht (exS_rt1 (ex_if (t := false) (t_mc (u := .bool (pre p g)) rfl (congrArg some hq)) rfl)))
 ·exact OV.st (ex_if ht rfl) (ell_tail hg hs hp hl)
theorem x_asrt {c : X} {p : Pos} (e : L.tv c lo ce b H = some (true, H)) : ex1 L (.asrt c p) lo ce b H = some (.nx, lo, H) := by
 show ob2 (L.tv c lo ce b H) _ = _
 rw [e]; rfl
theorem mf_split (h1 : smallL w = true) : mfM .split (.str w) [.str dots] b H = newL H ((splitL dots w.length [] w).map .str) := by
 show gd (smallL w && true) _ = _
 rw [h1]; rfl
theorem x_asw {ks : List (Nat × Pos)} {xs : List X} {vs : List AV} {lo1 : Lo} (e : evs (fun x H => L.ev x lo ce b H) xs H = some (vs, H)) (h : storesM ks.reverse vs.reverse lo [] b H = some (lo1, H)) : ex1 L (.asw ks q xs r kp) lo ce b H = some (.nx, lo1, H) := by
 show ob2 (evs (fun x H => L.ev x lo ce b H) xs H) _ = _
 rw [e]; show nxM (storesM ks.reverse vs.reverse lo [] b H) = _; rw [h]; rfl
theorem evs_2 {x y : X} {u v : AV} (e1 : L.ev x lo ce b H = some (u, H)) (e2 : L.ev y lo ce b H = some (v, H)) : evs (fun x H => L.ev x lo ce b H) [x, y] H = some ([u, v], H) := by
 show ob2 (L.ev x lo ce b H) _ = _
 rw [e1]; show ob2 (ob2 (L.ev y lo ce b H) _) _ = _; rw [e2]; rfl
theorem ell_x : OV (exS (lvl fns 28) b0 [(0, .str w), (1, .str g)] [] H.length H) (ellO w g) := by
 have ht : (lvl fns 28).tv (.cmp (.gcon 2 (.str [46,46,46]) ⟨4,7,4,22⟩) .NotIn (.var 0 ⟨4,30,4,34⟩) ⟨4,7,4,34⟩) [(0, .str w), (1, .str g)] [] H.length H = some (!isIn dots w, H) := rfl
 refine Op.cnd (fun h => ?_) fun h => ?_ <;> rw [h] at ht
 ·exact OV.rt (ex_if ht rfl)
 refine Op.gd fun hc => ?_
 obtain ⟨hw, hc⟩ := and_all hc
 obtain ⟨hg, hc⟩ := and_all hc
 obtain ⟨hs, hc⟩ := and_all hc
 obtain ⟨hp, hc⟩ := and_all hc
 obtain ⟨h2, hl⟩ := and_all hc
 have hx : smallL ((ellS w).map AV.str) = true := by rw [smallL_map]; exact hs
 refine OV.st (ex_if ht rfl) (OV.st (H1 := H ++ [.lst ((ellS w).map .str)]) (x_asg (v_mcall (vs := [.str dots]) rfl rfl rfl (mf_split hw)) rfl) ?_)
 refine OV.st (x_asrt (v_cmp (v_bcall rfl (b_lenL (getLst_last _ _) hx)) rfl (congrArg some ?_))) ?_
 ·rw [List.length_map]; exact h2
 refine OV.st (x_asw (evs_2 rfl (v_bcall rfl (b_lenS hg))) rfl) ?_
 exact ell_head hg hs hp (Nat.ble_eq_true_of_le (Nat.le_succ_of_le (Nat.le_of_ble_eq_true hl)))
end
theorem cl_runV {P : List Fn} {L : Lvl} {f : Nat} {fn : Fn} {vs : List AV} {ks binds : List (Nat × AV)} {b : Nat} {H : St} {lo : Lo} {v : AV} (h1 : nth P f = some fn) (h2 : bindM fn vs ks = some binds) (h3 : cellsM fn.kd [] H = ([], H)) (h4 : storeAll binds [] [] H.length H = some (lo, H)) (hp : fn.pure = true)
  (h5 : RtV (L.ex fn.body lo [] H.length H) v) (h6 : ∀ H3, home H.length H3 v = some (v, [], [])) : clS P L f vs ks b H = some (v, H) := h5.elim fun H3 h => cl_run h1 h2 h3 h4 hp h (h6 H3)
theorem ell_c {w g : List Nat} {t : Bool} {b : Nat} {H : St} (e : ellO w g = some t) : (lvl fns 30).cl 0 [.str w, .str g] [] b H = some (.bool t, H) := by
 show clS fns (lvl fns 29) 0 [.str w, .str g] [] b H = some (.bool t, H)
 have hx : RtV ((lvl fns 29).ex f0.body [(0, .str w), (1, .str g)] [] H.length H) (.bool t) := ell_x t e
 exact cl_runV (fn := f0) (binds := [(0, .str w), (1, .str g)]) (lo := [(0, .str w), (1, .str g)]) rfl rfl rfl rfl rfl hx (fun _ => rfl)
noncomputable def compF (L : Lvl) (elt : X) (t : Tg) (ifs : List X) (ce : Ce) (b acc : Nat) (v : AV) (a : Lo × St) : Option ((Lo × St) × Bool) := ob2 (asgM t v a.1 ce b a.2) fun lo H =>
 obB (tests (fun x lo H => L.tv x lo ce b H) lo ifs H) (fun H => ob1 (ob1 (ob2 (L.ev elt lo ce b H) fun v K => ob1 (getLst K acc) fun xs => gd (smallL xs) <| some (setN (.lst (xs ++ [v])) K acc)) fun H => some (lo, H)) fun a => some (a, true)) fun H => some ((lo, H), true)
section
variable {L : Lvl} {elt : X} {t : Tg} {it : It} {ifs : List X} {kd : List (Nat × K3)} {lo lo' : Lo} {ce : Ce} {b acc : Nat} {H H1 H2 H3 : St} {s : Src} {v w : AV} {xs : List AV}
theorem comp_eq (h : itM (fun x H => L.ev x lo ce b H) it H = some (s, H1)) (hb : Nat.ble b H1.length = true) :
  compM L elt [.mk t it ifs] kd lo ce b H = ob2 (turns (·.2) (compF L elt t ifs (freeC kd ce) b H1.length) s MAXT 0 ([], H1 ++ [.lst []])) fun _ K => some (.ref H1.length, K) := by
 show ob2 (itM (fun x H => L.ev x lo ce b H) it H) _ = _
 rw [h]
 show gd (Nat.ble b H1.length) _ = _
 rw [hb]; rfl
theorem compF_t (h1 : asgM t v lo ce b H = some (lo', H1)) (h2 : tests (fun x lo H => L.tv x lo ce b H) lo' ifs H1 = some (true, H2)) (h3 : L.ev elt lo' ce b H2 = some (w, H3)) (h4 : getLst H3 acc = some xs) (h5 : smallL xs = true) :
  compF L elt t ifs ce b acc v (lo, H) = some ((lo', setN (.lst (xs ++ [w])) H3 acc), true) := by
 show ob2 (asgM t v lo ce b H) _ = _
 rw [h1]; show obB (tests (fun x lo H => L.tv x lo ce b H) lo' ifs H1) _ _ = _
 rw [h2]; show ob1 (ob1 (ob2 (L.ev elt lo' ce b H2) _) _) _ = _
 rw [h3]; show ob1 (ob1 (ob1 (getLst H3 acc) _) _) _ = _
 rw [h4]; show ob1 (ob1 (gd (smallL xs) _) _) _ = _
 rw [h5]; rfl
theorem compF_f (h1 : asgM t v lo ce b H = some (lo', H1)) (h2 : tests (fun x lo H => L.tv x lo ce b H) lo' ifs H1 = some (false, H2)) : compF L elt t ifs ce b acc v (lo, H) = some ((lo', H2), true) := by
 show ob2 (asgM t v lo ce b H) _ = _
 rw [h1]; show obB (tests (fun x lo H => L.tv x lo ce b H) lo' ifs H1) _ _ = _
 rw [h2]; rfl
theorem comp1 (items : List AV) (f : AV → Option AV) (h : itM (fun x H => L.ev x lo ce b H) it H = some (s, H1)) (hb : Nat.ble b H1.length = true) (hs : ∀ xs k, srcAt (H1 ++ [.lst xs]) s k = some (nth items k)) (hn : items.length < 100)
  (hx : ∀ x ∈ items, ∀ lo xs, ∃ lo', asgM t x lo (freeC kd ce) b (H1 ++ [.lst xs]) = some (lo', H1 ++ [.lst xs]) ∧
   (f x).elim (tests (fun x lo H => L.tv x lo (freeC kd ce) b H) lo' ifs (H1 ++ [.lst xs]) = some (false, H1 ++ [.lst xs])) fun v => tests (fun x lo H => L.tv x lo (freeC kd ce) b H) lo' ifs (H1 ++ [.lst xs]) = some (true, H1 ++ [.lst xs]) ∧ L.ev elt lo' (freeC kd ce) b (H1 ++ [.lst xs]) = some (v, H1 ++ [.lst xs])) :
  compM L elt [.mk t it ifs] kd lo ce b H = some (.ref H1.length, H1 ++ [.lst (items.filterMap f)]) := by
 rw [comp_eq h hb]
 refine turns_go (items := items) (fun o => ob2 o (fun _ K => some (AV.ref H1.length, K)) = some (.ref H1.length, H1 ++ [.lst (items.filterMap f)])) (fun r a => ∃ done, items = done ++ r ∧ a.2 = H1 ++ [.lst (done.filterMap f)]) ?_ ?_ ?_ items [] 100 ([], H1 ++ [.lst []]) rfl (Nat.ble_eq_true_of_le hn) ⟨[], rfl, rfl⟩
 ·rintro r ⟨lo, K⟩ k ⟨done, _, e⟩
  have e : K = _ := e
  rw [e]; exact hs _ k
 ·rintro ⟨lo, K⟩ ⟨done, e0, e⟩
  rw [List.append_nil] at e0
  rw [e0]
  exact congrArg (fun K => some (AV.ref H1.length, K)) e
 ·rintro x r ⟨lo, K⟩ ⟨done, e0, e⟩
  obtain rfl : K = _ := e
  obtain ⟨lo1, e1, e2⟩ := hx x (by rw [e0]; exact List.mem_append_right _ (.head _)) lo (done.filterMap f)
  have hd : ∀ o, f x = o → (done ++ [x]).filterMap f = done.filterMap f ++ o.toList := fun o e => by rw [List.filterMap_append, List.filterMap_cons, e]; cases o <;> rfl
  have hsm : smallL (done.filterMap f) = true := Nat.ble_eq_true_of_le (by
   have := List.length_filterMap_le f done
   have : done.length ≤ items.length := by rw [e0, List.length_append]; exact Nat.le_add_right _ _
   omega)
  have he : items = (done ++ [x]) ++ r := by rw [e0, List.append_assoc]; rfl
  cases hf : f x with
  | none =>
   rw [hf] at e2
   exact .inr ⟨_, compF_f e1 e2, done ++ [x], he, by rw [hd _ hf]; show _ = H1 ++ [.lst (_ ++ [])]; rw [List.append_nil]⟩
  | some v =>
   rw [hf] at e2
   exact .inr ⟨_, compF_t e1 e2.1 e2.2 (getLst_last _ _) hsm, done ++ [x], he, by rw [hd _ hf]; exact setN_last _ _ _⟩
end
theorem lkp_setL (j k : Nat) (v : AV) (l : Lo) : lkp j (setL k v l) = cond (Nat.beq k j) (some v) (lkp j l) := by
 induction l with
 | nil => show (match Nat.beq k j with | true => some v | false => none) = _; cases Nat.beq k j <;> rfl
 | cons y r ih =>
  obtain ⟨i, w⟩ := y
  cases h : Nat.beq i k with
  | true =>
   have e : setL k v ((i, w) :: r) = (k, v) :: r := by show (match Nat.beq i k with | true => (k, v) :: r | false => (i, w) :: setL k v r) = _; rw [h]
   obtain rfl := Nat.eq_of_beq_eq_true h
   rw [e]; unfold lkp
   cases Nat.beq i j <;> rfl
  | false =>
   have e : setL k v ((i, w) :: r) = (i, w) :: setL k v r := by show (match Nat.beq i k with | true => (k, v) :: r | false => (i, w) :: setL k v r) = _; rw [h]
   rw [e]; unfold lkp
   rw [ih]
   cases h1 : Nat.beq i j with
   | false => rfl
   | true =>
    obtain rfl := Nat.eq_of_beq_eq_true h1
    rw [show Nat.beq k i = false from Bool.eq_false_iff.mpr fun q => absurd h (by rw [Nat.eq_of_beq_eq_true q, Nat.beq_refl]; exact nofun)]; rfl
theorem nth_get {α : Type} (l : List α) : ∀ i, nth l i = l[i]? := by
 induction l with
 | nil => exact fun _ => rfl
 | cons a r ih =>
  intro i
  cases i with
  | zero => rfl
  | succ n => exact (ih n).trans rfl
theorem nth_map {α β : Type} (f : α → β) (l : List α) (i : Nat) : nth (l.map f) i = (nth l i).map f := by rw [nth_get, nth_get, List.getElem?_map]
theorem src_rng {a c d : Int} {H : St} {k : Nat} : srcAt H (.rng a c d) k = some (nth ((rangeL a c d).map .int) k) := by
 show some (cond (Nat.blt k (rangeN a c d)) (some (AV.int (a + k * d))) none) = _
 unfold rangeL
 rw [nth_map, nth_map, nth_get]
 cases h : Nat.blt k (rangeN a c d) with
 | true => rw [List.getElem?_range (Nat.le_of_ble_eq_true h)]; rfl
 | false => rw [List.getElem?_eq_none (by rw [List.length_range]; exact Nat.not_lt.mp fun q => absurd h (by rw [show Nat.blt k (rangeN a c d) = true from Nat.ble_eq_true_of_le q]; exact nofun))]; rfl
noncomputable def asF3 (vs : List AV) (f : Fl → Fl → Fl → Option (Fl × Fl × Fl)) : Option AV := tk3 vs fun a b c => asF a fun a => asF b fun b => asF c fun c => ob1 (f a b c) fun r => some (tupF r)
noncomputable def orc (f : Nat) (vs : List AV) : Option AV := match f with
 | 0 => tk2 vs fun w g => asS w fun w => asS g fun g => ob1 (ellO w g) fun t => some (.bool t)
 | 9 => asF3 vs rhlsM
 | 10 => asF3 vs rhsvM
 | 11 => asF3 vs hsvM
 | _ => none
noncomputable def isO (f : Nat) : Bool := Nat.beq f 0 || (Nat.beq f 9 || (Nat.beq f 10 || Nat.beq f 11))
noncomputable def dvV (x y : Int) : AV := .tup [.int (Int.fdiv x y), .int (Int.fmod x y)]
noncomputable def rngI (n a : Nat) : List Int := (List.range n).map fun (k : Nat) => (k : Int) - a
noncomputable def dvP (y : Int) (l : List Int) : Prop := (l.map fun x => (lvl fns 30).cl 5 [.int x, .int y] [] 0 []) = l.map fun x => some (dvV x y, [])
theorem dv1 : dvP 1 (rngI 16 0) := by unfold dvP; kernel_rfl
theorem dv2 : dvP 2 (rngI 16 0) := by unfold dvP; kernel_rfl
theorem dv3 : dvP 3 (rngI 16 0) := by unfold dvP; kernel_rfl
theorem dv5 : dvP 5 (rngI 16 0) := by unfold dvP; kernel_rfl
theorem dv7 : dvP 7 (rngI 16 0) := by unfold dvP; kernel_rfl
theorem dv8 : dvP 8 (rngI 15 7) := by unfold dvP; kernel_rfl
theorem dv16 : dvP 16 (rngI 31 15) := by unfold dvP; kernel_rfl
noncomputable def dvT : List (Int × List Int) := [(1, rngI 16 0), (2, rngI 16 0), (3, rngI 16 0), (5, rngI 16 0), (7, rngI 16 0), (8, rngI 15 7), (16, rngI 31 15)]
theorem dv_all : ∀ p ∈ dvT, dvP p.1 p.2 := List.forall_mem_cons.mpr ⟨dv1, List.forall_mem_cons.mpr ⟨dv2, List.forall_mem_cons.mpr ⟨dv3, List.forall_mem_cons.mpr ⟨dv5, List.forall_mem_cons.mpr ⟨dv7, List.forall_mem_cons.mpr ⟨dv8, List.forall_mem_cons.mpr ⟨dv16, List.forall_mem_nil _⟩⟩⟩⟩⟩⟩⟩
noncomputable def dvO (vs : List AV) : Option AV := tk2 vs fun a b => asI a fun x => asI b fun y => gd (dvT.any fun p => eqI p.1 y && p.2.any fun z => eqI z x) <| some (dvV x y)
noncomputable def clO (L : Lvl) (f : Nat) (vs : List AV) (ks : List (Nat × AV)) (b : Nat) (H : St) : Option (AV × St) := cond (isO f) (gd ks.isEmpty <| ob1 (orc f vs) fun v => some (v, H)) (cond (Nat.beq f 5) (gd ks.isEmpty <| ob1 (dvO vs) fun v => some (v, H)) (clS fns L f vs ks b H))
noncomputable def lvlO : Nat → Lvl
 | 0 => lvl fns 30
 | n + 1 => ⟨evS (lvlO n), tvS (lvlO n), exS (lvlO n), clO (lvlO n), vcS (lvlO n)⟩
section
variable {γ : Type} {P : γ → Prop}
theorem op_c {vs : List AV} {f : AV → List AV → Option γ} (h : ∀ a r, vs = a :: r → Op P (f a r)) : Op P (tkc vs f) := by
 cases vs with
 | nil => exact Op.none
 | cons a r => exact h a r rfl
theorem op_0 {vs : List AV} {o : Option γ} (h : vs = [] → Op P o) : Op P (tk0 vs o) := by
 cases vs with
 | nil => exact h rfl
 | cons => exact Op.none
theorem op_F {u : AV} {f : Fl → Option γ} (h : ∀ a, u = .flt a → Op P (f a)) : Op P (asF u f) := by
 cases u with
 | flt a => exact h a rfl
 | _ => exact Op.none
theorem op_S {u : AV} {f : List Nat → Option γ} (h : ∀ a, u = .str a → Op P (f a)) : Op P (asS u f) := by
 cases u with
 | str a => exact h a rfl
 | _ => exact Op.none
end
theorem f3_ok {f : Fl → Fl → Fl → Option (Fl × Fl × Fl)} {vs : List AV} {P : AV → Prop} (h : ∀ a b c r, vs = [.flt a, .flt b, .flt c] → f a b c = some r → P (tupF r)) : Op P (asF3 vs f) :=
 op_c fun a _ e1 => op_c fun b _ e2 => op_c fun c _ e3 => op_0 fun e4 => op_F fun _ e5 => op_F fun _ e6 => op_F fun _ e7 => Op.ob1 fun r e => Op.some (h _ _ _ r (by rw [e1, e2, e3, e4, e5, e6, e7]) e)
theorem orc_ok (f : Nat) (vs : List AV) (b : Nat) (H : St) : Op (fun v => (lvl fns 30).cl f vs [] b H = some (v, H)) (orc f vs) := by
 unfold orc
 split
 ·exact op_c fun w _ e1 => op_c fun g _ e2 => op_0 fun e3 => op_S fun _ e5 => op_S fun _ e6 => Op.ob1 fun r e => Op.some (by rw [e1, e2, e3, e5, e6]; exact ell_c e)
 ·exact f3_ok fun a b c r e1 e2 => by rw [e1]; exact rhls_c r e2
 ·exact f3_ok fun a b c r e1 e2 => by rw [e1]; exact rhsv_c r e2
 ·exact f3_ok fun a b c r e1 e2 => by rw [e1]; exact hsv_c r e2
 ·exact Op.none
theorem dv_ok (vs : List AV) : Op (fun v => ∃ x y, vs = [.int x, .int y] ∧ v = dvV x y ∧ (lvl fns 30).cl 5 [.int x, .int y] [] 0 [] = some (dvV x y, [])) (dvO vs) := op_c fun a _ e1 => op_c fun c _ e2 => op_0 fun e3 => by
 cases a with
 | int x =>
  cases c with
  | int y =>
   refine Op.gd fun h => Op.some ⟨x, y, by rw [e1, e2, e3], rfl, ?_⟩
   obtain ⟨p, hp, h⟩ := List.any_eq_true.mp h
   obtain ⟨h1, h2⟩ := Bool.and_eq_true_iff.mp h
   obtain ⟨z, hz, h2⟩ := List.any_eq_true.mp h2
   obtain rfl := (W.Z.eqB_iff _ _).mp h1
   obtain rfl := (W.Z.eqB_iff _ _).mp h2
   exact List.map_inj_left.mp (dv_all p hp) _ hz
  | _ => exact Op.none
 | _ => exact Op.none
section
variable {cl : Nat → List AV → List (Nat × AV) → Nat → St → Option (AV × St)} {L : Lvl} {b k i j n : Nat} {lo lo' : Lo} {ce : Ce} {H H1 H2 H3 H4 H' : St} {u v w : AV} {l r x y o c : X} {p q kp sp np : Pos} {z : AV × St} {rest T E : List S} {t : Bool} {R : Option (RF × Lo × St)} {vs ws : List AV} {xs : List X} {s s2 : List Nat} {m : MF} {a d : Int} {ns : List Int} {lh hh st : Option Int} {f : X → St → Option (AV × St)} {tg : Tg}
theorem v_var (e : varM k lo ce H = some v) : (up cl L).ev (.var k p) lo ce b H = some (v, H) := by
 show ob1 (varM k lo ce H) _ = _
 rw [e]; rfl
theorem lk_self : lkp k (setL k v lo) = some v := by rw [lkp_setL, Nat.beq_refl]; rfl
theorem lk_ne (h : Nat.beq k j = false) (e : lkp j lo = some w) : lkp j (setL k v lo) = some w := by rw [lkp_setL, h]; exact e
theorem v_lk (h : lkp k ce = none) (e : lkp k lo = some v) : (up cl L).ev (.var k p) lo ce b H = some (v, H) := v_var (by unfold varM; rw [h]; exact e)
theorem x_asgt (e : L.ev x lo ce b H = some (v, H1)) (h : asgM tg v lo ce b H1 = some (lo', H2)) : ex1 L (.asg tg x p) lo ce b H = some (.nx, lo', H2) := by
 show ob2 (L.ev x lo ce b H) (fun v H => nxM (asgM tg v lo ce b H)) = _
 rw [e]
 show nxM (asgM tg v lo ce b H1) = _
 rw [h]; rfl
theorem it_pl {sr : Src} (e : f x H = some (v, H1)) (h : srcOf v H1 = some sr) : itM f (.pl x) H = some (sr, H1) := by
 show ob2 (f x H) _ = _
 rw [e]; show ob1 (srcOf v H1) _ = _; rw [h]; rfl
theorem v_slc {l2 h2 s2 : Xo} (e1 : L.ev o lo ce b H = some (u, H1)) (e2 : evo (fun x H => L.ev x lo ce b H) l2 H1 = some (lh, H2)) (e3 : evo (fun x H => L.ev x lo ce b H) h2 H2 = some (hh, H3)) (e4 : evo (fun x H => L.ev x lo ce b H) s2 H3 = some (st, H4)) (e5 : slcM u lh hh st H4 = some z) :
  (up cl L).ev (.slc o l2 h2 s2 sp p) lo ce b H = some z := by
 show ob2 (L.ev o lo ce b H) (fun u H => ob2 (evo (fun x H => L.ev x lo ce b H) l2 H) fun l H => ob2 (evo (fun x H => L.ev x lo ce b H) h2 H) fun h H => ob2 (evo (fun x H => L.ev x lo ce b H) s2 H) fun s H => slcM u l h s H) = _
 rw [e1]; show ob2 (evo (fun x H => L.ev x lo ce b H) l2 H1) _ = _
 rw [e2]; show ob2 (evo (fun x H => L.ev x lo ce b H) h2 H2) _ = _
 rw [e3]; show ob2 (evo (fun x H => L.ev x lo ce b H) s2 H3) _ = _
 rw [e4]; exact e5
theorem evo_so (e : f x H = some (.int a, H1)) (h : smallI a = true) : evo f (.so x) H = some (some a, H1) := by
 show ob2 (f x H) _ = _
 rw [e]; show gd (smallI a) _ = _; rw [h]; rfl
theorem evs_1 (e : f x H = some (v, H1)) : evs f [x] H = some ([v], H1) := by
 show ob2 (f x H) _ = _
 rw [e]; rfl
theorem evs_c (e : f x H = some (v, H1)) (h : evs f xs H1 = some (vs, H2)) : evs f (x :: xs) H = some (v :: vs, H2) := by
 show ob2 (f x H) _ = _
 rw [e]; show ob2 (evs f xs H1) _ = _; rw [h]; rfl
theorem sl_z (h : (!eqI (st.getD 1) 0) = true) (h1 : smallL vs = true) : slcM (.frz vs) lh hh st H = newL H (sliceL vs lh hh st) := by
 show gd (!eqI (st.getD 1) 0) (alt (gd (smallL vs) _) _) = _
 rw [h, h1]; rfl
theorem sl_l (h : (!eqI (st.getD 1) 0) = true) (g : getLst H j = some vs) (h1 : smallL vs = true) : slcM (.ref j) lh hh st H = newL H (sliceL vs lh hh st) := by
 show gd (!eqI (st.getD 1) 0) (alt (ob1 (getLst H j) _) _) = _
 rw [h, g]; show alt (gd (smallL vs) _) _ = _; rw [h1]; rfl
theorem sl_s (h : (!eqI (st.getD 1) 0) = true) (h1 : smallL (sliceS s lh hh st) = true) : slcM (.str s) lh hh st H = some (.str (sliceS s lh hh st), H) := by
 show gd (!eqI (st.getD 1) 0) (gd (smallL (sliceS s lh hh st)) _) = _
 rw [h, h1]; rfl
theorem b_sum (g : getLst H j = some vs) (h : intsOf vs = some ns) (h1 : smallL ns = true) (h2 : ns.all smallI = true) : bfM .sum [.ref j] H = some (.int ns.sum, H) := by
 show ob1 (getLst H j) (fun xs => ob1 (intsOf xs) fun ns => gd (smallL ns && ns.all smallI) <| some (AV.int ns.sum, H)) = _
 rw [g]; show ob1 (intsOf vs) _ = _; rw [h]; show gd (smallL ns && ns.all smallI) _ = _; rw [h1, h2]; rfl
theorem cl_runH {P : List Fn} {f : Nat} {fn : Fn} {ks binds : List (Nat × AV)} {g : List Nat} {nw : List AO} (h1 : nth P f = some fn) (h2 : bindM fn vs ks = some binds) (h4 : storeAll binds [] (cellsM fn.kd [] H).1 H.length (cellsM fn.kd [] H).2 = some (lo, H1)) (hp : fn.pure = true)
  (h5 : Rt (L.ex fn.body lo (cellsM fn.kd [] H).1 H.length H1) v H3) (h6 : home H.length H3 v = some (w, g, nw)) : clS P L f vs ks b H = some (w, H ++ nw) := by
 obtain ⟨lo', e⟩ := h5
 show ob1 (nth P f) _ = _
 rw [h1]
 show ob1 (bindM fn vs ks) _ = _
 rw [h2]
 show cond fn.pure (ob2 (ob2 (storeAll binds [] (cellsM fn.kd [] H).1 H.length (cellsM fn.kd [] H).2) _) _) _ = _
 rw [hp, h4]
 show ob2 (obX (L.ex fn.body lo (cellsM fn.kd [] H).1 H.length H1) _ _) _ = _
 rw [e]
 show ob1 (home H.length H3 v) _ = _
 rw [h6]; rfl
end
theorem slice_sub {α : Type} {xs : List α} {lo hi st : Option Int} {x : α} (h : x ∈ sliceL xs lo hi st) : x ∈ xs := by
 unfold sliceL at h
 obtain ⟨i, _, e⟩ := List.mem_filterMap.mp h
 rw [nth_get] at e
 exact List.mem_of_getElem? e
noncomputable def bndB (lo hi st : Option Int) : Bool := (List.range 64).all fun n => Nat.blt (sliceRange (sliceBounds lo hi st n).1 (sliceBounds lo hi st n).2.1 (sliceBounds lo hi st n).2.2).length 64
theorem slice_64 {α : Type} {xs : List α} {lo hi st : Option Int} (e : bndB lo hi st = true) (h : xs.length < 64) : (sliceL xs lo hi st).length < 64 :=
 Nat.lt_of_le_of_lt (List.length_filterMap_le _ _) (Nat.le_of_ble_eq_true (List.all_eq_true.mp e xs.length (List.mem_range.mpr h)))
theorem small_64 {α : Type} {xs : List α} (h : xs.length < 64) : smallL xs = true := Nat.ble_eq_true_of_le (Nat.le_trans h (by decide))
noncomputable def cellP (i : Int) : Bool := leI 0 i && leI i 1000000
theorem ints_of {xs : List AV} (h : ∀ x ∈ xs, ∃ i, x = .int i ∧ cellP i = true) : ∃ ns, intsOf xs = some ns ∧ ns.length = xs.length ∧ ns.all cellP = true := by
 induction xs with
 | nil => exact ⟨[], rfl, rfl, rfl⟩
 | cons x xs ih =>
  obtain ⟨i, rfl, hi⟩ := h x (.head _)
  obtain ⟨ns, e, l, a⟩ := ih fun y hy => h y (.tail _ hy)
  refine ⟨i :: ns, ?_, congrArg Nat.succ l, by rw [List.all_cons, hi, a]; rfl⟩
  show ob1 (intsOf xs) _ = _
  rw [e]; rfl
noncomputable def cellF (v : AV) : Option AV := asI v fun i => some (.int (Int.fmod i 1000000))
theorem cell_p (i : Int) : cellP (Int.fmod i 1000000) = true := by
 unfold cellP leI
 rw [Int.fmod_eq_emod_of_nonneg i (by decide), (W.Z.leB_iff _ _).mpr (Int.emod_nonneg i (by decide)), (W.Z.leB_iff _ _).mpr (Int.le_of_lt (Int.emod_lt_of_pos i (by decide)))]; rfl
theorem cell_b {i : Int} (h : cellP i = true) : 0 ≤ i ∧ i ≤ 1000000 := (and_all h).imp (W.Z.leB_iff _ _).mp (W.Z.leB_iff _ _).mp
theorem smallI_b {i : Int} (h0 : 0 ≤ i) (h : i ≤ 100000000) : smallI i = true := Nat.ble_eq_true_of_le (by omega)
theorem sum_bnd (ns : List Int) (h : ns.all cellP = true) : 0 ≤ ns.sum ∧ ns.sum ≤ 1000000 * ns.length := by
 induction ns with
 | nil => exact ⟨Int.le_refl _, Int.le_refl _⟩
 | cons a r ih =>
  have h1 := cell_b (and_all h).1
  have ih := ih (and_all h).2
  rw [List.sum_cons, List.length_cons]
  omega
noncomputable def H0 : St := [.cell none, .cell none, .cell none, .cell none, .cell none, .cell none, .cell none]
noncomputable def firsts : AV := .tup [.int 7, .int 21, .int 44, .int 27]
noncomputable def rows60 (xs : List Int) : List AV := sliceL (xs.map AV.int) none (some 60) none
noncomputable def headsOf (xs : List Int) : List AV := (rows60 xs).filterMap cellF
section
variable {n : Nat} {xs : List Int} {i : Int} {lo : Lo} {H : St} {vs acc : List AV} {ns : List Int} {k : Nat} {m : Int} {x0 x1 x2 x3 x4 x5 x6 x9 : AO} {J : St}
theorem rows_64 (h : xs.length < 64) : (rows60 xs).length < 64 := slice_64 (by decide +kernel) (by rw [List.length_map]; exact h)
theorem heads_64 (h : xs.length < 64) : (headsOf xs).length < 64 := Nat.lt_of_le_of_lt (List.length_filterMap_le _ _) (rows_64 h)
theorem heads_ints : ∀ x ∈ headsOf xs, ∃ i, x = .int i ∧ cellP i = true := fun x hx => by
 obtain ⟨y, hy, e⟩ := List.mem_filterMap.mp hx
 cases y with
 | int i => exact ⟨_, (sI1 e).symm, cell_p i⟩
 | _ => exact nomatch e
theorem cell_ev : (lvlO (n + 5)).ev Zt23 (setL 76 (.int i) lo) [] 7 H = some (.int (Int.fmod i 1000000), H) := v_bin (v_lk rfl lk_self) rfl rfl
noncomputable def B9 (xs : List Int) : St := H0 ++ [.cell (some firsts), .cell none] ++ [.lst (rows60 xs)]
noncomputable def B10 (xs : List Int) : St := H0 ++ [.cell (some firsts), .cell (some (.ref 10)), .lst (rows60 xs), .lst (headsOf xs)]
theorem cells_1 (hl : xs.length < 64) : exS (lvlO (n+6)) (b12.take 1) [(73, .frz (xs.map .int))] [(75, 8), (74, 7)] 7 (H0 ++ [.cell (some firsts), .cell none]) = some (.nx, [(73, .frz (xs.map .int))], B10 xs) := by
 have hs : smallL (xs.map AV.int) = true := small_64 (by rw [List.length_map]; exact hl)
 have hr := rows_64 hl
 refine exS_nx (x_asgt (comp1 (L := lvlO (n+5)) (H1 := B9 xs) (s := .lst 9) (rows60 xs) cellF (it_pl (v_slc rfl rfl rfl rfl (sl_z rfl hs)) rfl) rfl (fun ys k => ?_) (Nat.lt_trans hr (by decide)) fun x hx lo ys => ?_) rfl)
 ·show gd (smallL (rows60 xs)) _ = _
  rw [small_64 hr]; rfl
 ·obtain ⟨i, _, rfl⟩ := List.mem_map.mp (slice_sub hx)
  exact ⟨setL 76 (.int i) lo, rfl, rfl, cell_ev⟩
theorem sub4 (h : xs.length < 64) (hk : k < 4) : ∃ ns, intsOf (sliceL (headsOf xs) (some (k : Int)) none (some 4)) = some ns ∧ smallL ns = true ∧ ns.all smallI = true ∧ ∀ a : Int, 0 ≤ a → a ≤ 44 → smallI (a + ns.sum) = true := by
 obtain ⟨ns, e, l, a⟩ := ints_of (xs := sliceL (headsOf xs) (some (k : Int)) none (some 4)) fun x hx => heads_ints x (slice_sub hx)
 have h1 : ns.length < 64 := l ▸ slice_64 (List.all_eq_true.mp (show ((List.range 4).all fun k => bndB (some (k : Int)) none (some 4)) = true by decide +kernel) k (List.mem_range.mpr hk)) (heads_64 h)
 have hb := sum_bnd ns a
 refine ⟨ns, e, small_64 h1, List.all_eq_true.mpr fun i hi => ?_, fun b h0 h1 => smallI_b (by omega) (by omega)⟩
 have := cell_b (List.all_eq_true.mp a i hi)
 exact smallI_b this.1 (by omega)
noncomputable def B11 (x9 : AO) (vs acc : List AV) (J : St) : St := H0 ++ .cell (some firsts) :: .cell (some (.ref 10)) :: x9 :: .lst vs :: .lst acc :: J
theorem cells_turn (hh : smallL vs = true) (a0 : intsOf (sliceL vs (some (k : Int)) none (some 4)) = some ns) (b0 : smallL ns = true) (d0 : ns.all smallI = true) (hk : smallI (k : Int) = true) (ha : smallL acc = true) :
  compF (lvlO (n+5)) Zt24 Zt17 [] [(75, 8), (74, 7)] 7 11 (.tup [.int k, .int m]) (lo, B11 x9 vs acc J) = some ((setL 79 (.int m) (setL 78 (.int k) lo), B11 x9 vs (acc ++ [.int (m + ns.sum)]) (J ++ [.lst (sliceL vs (some (k : Int)) none (some 4))])), true) :=
 Eq.trans (compF_t (w := .int (m + ns.sum)) (H3 := B11 x9 vs acc J ++ [.lst (sliceL vs (some (k : Int)) none (some 4))]) rfl rfl (v_bin (v_lk rfl lk_self) (v_bcall (evs_1 (v_slc (v_var rfl) (evo_so (v_lk rfl (lk_ne rfl lk_self)) hk) rfl rfl (sl_l rfl rfl hh))) (b_sum (getLst_last _ _) a0 b0 d0)) rfl) rfl ha) rfl
theorem olds_int (n : Nat) (cs : List Int) : olds n (cs.map .int) = true := by
 induction cs with
 | nil => rfl
 | cons a r ih => exact ih
theorem len4 {cs : List Int} (h : cs.length = 4) : ∃ a b c d, cs = [a, b, c, d] := by
 rcases cs with _ | ⟨a, _ | ⟨b, _ | ⟨c, _ | ⟨d, cs⟩⟩⟩⟩
 iterate 4 first | exact absurd h (show ¬ (0 : Nat) = 4 by decide) | exact absurd h (show ¬ (1 : Nat) = 4 by decide) | exact absurd h (show ¬ (2 : Nat) = 4 by decide) | exact absurd h (show ¬ (3 : Nat) = 4 by decide)
 cases cs with
 | nil => exact ⟨a, b, c, d, rfl⟩
 | cons => exact absurd (Nat.succ.inj (Nat.succ.inj (Nat.succ.inj (Nat.succ.inj h)))) nofun
noncomputable def tbl4 : List AV := [.tup [.int (0 : Nat), .int 7], .tup [.int (1 : Nat), .int 21], .tup [.int (2 : Nat), .int 44], .tup [.int (3 : Nat), .int 27]]
theorem items4 (k : Nat) : srcAt H (.en (.tup [.int 7, .int 21, .int 44, .int 27])) k = some (nth tbl4 k) := by
 rcases k with _ | _ | _ | _ | k <;> rfl
noncomputable def In4 (r : List AV) : Prop := ∀ x ∈ r, ∃ (k : Nat) (m : Int), x = .tup [.int k, .int m] ∧ k < 4 ∧ 0 ≤ m ∧ m ≤ 44
theorem in4_c {k : Nat} {m : Int} {r : List AV} (h : k < 4) (h0 : 0 ≤ m) (h1 : m ≤ 44) (i : In4 r) : In4 (.tup [.int k, .int m] :: r) := fun x hx => by
 cases hx with
 | head => exact ⟨k, m, rfl, h, h0, h1⟩
 | tail _ hx => exact i x hx
theorem in4_t : In4 tbl4 := in4_c (by decide) (by decide) (by decide) (in4_c (by decide) (by decide) (by decide) (in4_c (by decide) (by decide) (by decide) (in4_c (by decide) (by decide) (by decide) nofun)))
theorem b10_len : (B10 xs).length = 11 := rfl
theorem free12 : freeC [(77, .loc), (78, .loc), (79, .loc), (80, .glb), (8, .glb), (74, .fre), (75, .fre)] [(75, 8), (74, 7)] = [(75, 8), (74, 7)] := rfl
theorem b10_b11 : B10 xs ++ [.lst []] = B11 (.lst (rows60 xs)) (headsOf xs) [] [] := rfl
theorem cells_t (hl : xs.length < 64) : ∃ cs : List Int, cs.length = 4 ∧ cs.all smallI = true ∧ ∃ lo K, turns (·.2) (compF (lvlO (n+5)) Zt24 Zt17 [] [(75, 8), (74, 7)] 7 11) (.en (.tup [.int 7, .int 21, .int 44, .int 27])) MAXT 0 ([], B10 xs ++ [.lst []]) = some (lo, K) ∧ home 7 K (.ref 11) = some (.ref 7, [11], [.lst (cs.map .int)]) := by
 refine turns_go (items := tbl4) (s := .en (.tup [.int 7, .int 21, .int 44, .int 27])) (fun o => ∃ cs : List Int, cs.length = 4 ∧ cs.all smallI = true ∧ ∃ lo K, o = some (lo, K) ∧ home 7 K (.ref 11) = some (.ref 7, [11], [.lst (cs.map .int)])) (fun r a => In4 r ∧ ∃ (cs : List Int) (J : St), a.2 = B11 (.lst (rows60 xs)) (headsOf xs) (cs.map .int) J ∧ cs.length + r.length = 4 ∧ cs.all smallI = true) (fun _ _ k _ => items4 k) ?_ ?_ tbl4 [] MAXT ([], B10 xs ++ [.lst []]) rfl rfl ⟨in4_t, [], [], b10_b11, rfl, rfl⟩
 ·rintro ⟨lo, K⟩ ⟨_, cs, J, e, hl, hs⟩
  obtain rfl : K = _ := e
  refine ⟨cs, hl, hs, _, _, rfl, ?_⟩
  show alt (gd (olds 7 (cs.map .int)) _) _ = _
  rw [olds_int]; rfl
 ·rintro x r ⟨lo, K⟩ ⟨hi, cs, J, e, hlr, hs⟩
  obtain rfl : K = _ := e
  obtain ⟨k, m, rfl, hk, h0, h1⟩ := hi x (.head _)
  obtain ⟨ns, a0, b0, d0, f0⟩ := sub4 hl hk
  have hcl : cs.length < 64 := Nat.lt_of_le_of_lt (Nat.le_add_right _ _) (hlr ▸ (by decide : 4 < 64))
  have ct := cells_turn (n := n) (lo := lo) (m := m) (x9 := .lst (rows60 xs)) (J := J) (small_64 (heads_64 hl)) a0 b0 d0 (smallI_b (Int.natCast_nonneg k) (by omega)) (small_64 (xs := cs.map AV.int) (by rw [List.length_map]; exact hcl))
  refine .inr ⟨_, ct, fun x hx => hi x (.tail _ hx), cs ++ [m + ns.sum], J ++ [.lst (sliceL (headsOf xs) (some (k : Int)) none (some 4))], ?_, ?_, ?_⟩
  ·show _ = B11 _ _ ((cs ++ [m + ns.sum]).map .int) _
   rw [List.map_append]; rfl
  ·rw [List.length_append]
   exact (Nat.succ_add_eq_add_succ _ _).trans hlr
  ·rw [List.all_append, hs]
   show (true && (smallI _ && true)) = true
   rw [f0 m h0 h1]; rfl
theorem cells_2 (hl : xs.length < 64) : ∃ cs : List Int, cs.length = 4 ∧ cs.all smallI = true ∧ ∃ K, Rt (exS (lvlO (n+6)) (b12.drop 1) [(73, .frz (xs.map .int))] [(75, 8), (74, 7)] 7 (B10 xs)) (.ref 11) K ∧ home 7 K (.ref 11) = some (.ref 7, [11], [.lst (cs.map .int)]) := by
 have hc := comp_eq (L := lvlO (n+5)) (elt := Zt24) (ifs := []) (kd := [(77, .loc), (78, .loc), (79, .loc), (80, .glb), (8, .glb), (74, .fre), (75, .fre)]) (t := Zt17) (it := Zt18) (lo := [(73, .frz (xs.map .int))]) (ce := [(75, 8), (74, 7)]) (b := 7) (H := B10 xs) (H1 := B10 xs) (s := .en (.tup [.int 7, .int 21, .int 44, .int 27])) rfl rfl
 obtain ⟨cs, h1, h2, lo, K, h3, h4⟩ := cells_t (n := n) hl
 rw [free12, b10_len] at hc
 rw [h3] at hc
 exact ⟨cs, h1, h2, K, Rt.ret hc, h4⟩
theorem cells_c (hl : xs.length < 64) : ∃ c0 c1 c2 c3, (smallI c0 = true ∧ smallI c1 = true ∧ smallI c2 = true ∧ smallI c3 = true) ∧ (lvlO (n+8)).cl 12 [.frz (xs.map .int), firsts] [] 0 H0 = some (.ref 7, H0 ++ [.lst [.int c0, .int c1, .int c2, .int c3]]) := by
 obtain ⟨cs, h1, h2, K, h3, h4⟩ := cells_2 (n := n) hl
 obtain ⟨c0, c1, c2, c3, rfl⟩ := len4 h1
 obtain ⟨s0, h2⟩ := and_all h2
 obtain ⟨s1, h2⟩ := and_all h2
 obtain ⟨s2, h2⟩ := and_all h2
 refine ⟨c0, c1, c2, c3, ⟨s0, s1, s2, (and_all h2).1⟩, ?_⟩
 have hb : Rt (exS (lvlO (n+6)) b12 [(73, .frz (xs.map .int))] [(75, 8), (74, 7)] 7 (H0 ++ [.cell (some firsts), .cell none])) (.ref 11) K := h3.imp fun _ e => (exS_app (pre := b12.take 1) (rest := b12.drop 1) (cells_1 hl)).trans e
 have q3 : cellsM f12.kd [] H0 = ([(75, 8), (74, 7)], H0 ++ [.cell none, .cell none]) := rfl
 have q6 : H0.length = 7 := rfl
 have q5 : storeAll [(73, .frz (xs.map .int)), (74, firsts)] [] [(75, 8), (74, 7)] 7 (H0 ++ [.cell none, .cell none]) = some ([(73, .frz (xs.map .int))], H0 ++ [.cell (some firsts), .cell none]) := rfl
 show clS fns (lvlO (n+7)) 12 [.frz (xs.map .int), firsts] [] 0 H0 = _
 refine cl_runH (P := fns) (f := 12) (L := lvlO (n+7)) (fn := f12) (binds := [(73, .frz (xs.map .int)), (74, firsts)]) (lo := [(73, .frz (xs.map .int))]) (H1 := H0 ++ [.cell (some firsts), .cell none]) (H3 := K) (v := .ref 11) (g := [11]) rfl rfl ?_ rfl ?_ ?_
 ·rw [q3, q6]; exact q5
 ·rw [q3, q6]; exact hb
 ·rw [q6]; exact h4
end
noncomputable def bisM (up : Bool → Bool) (ys : List Bool) : Nat → Nat → Nat → Option Nat
 | 0, _, _ => none
 | n + 1, l, h => cond (Nat.blt l h) (ob1 (nth ys ((l + h) / 2)) fun y => cond (up y) (bisM up ys n ((l + h) / 2 + 1) h) (bisM up ys n l ((l + h) / 2))) (some l)
noncomputable def bisL (xb : Bool) (ys : List Bool) : Nat → Nat → Nat → Option Nat := bisM (fun y => !y && xb) ys
noncomputable def bisR (xb : Bool) (ys : List Bool) : Nat → Nat → Nat → Option Nat := bisM (fun y => !(!xb && y)) ys
theorem smallI_nat {k : Nat} (h : k < 1000000) : smallI (k : Int) = true := smallI_b (Int.natCast_nonneg k) (by omega)
theorem ltI_nat (a b : Nat) : ltI (a : Int) (b : Int) = Nat.blt a b := by
 unfold ltI
 rw [Bool.eq_iff_iff, W.Z.ltB_iff, Nat.blt_eq]
 exact Int.ofNat_lt
theorem leI_nat (a b : Nat) : leI (a : Int) (b : Int) = Nat.ble a b := by
 unfold leI
 rw [Bool.eq_iff_iff, W.Z.leB_iff, Nat.ble_eq]
 exact Int.ofNat_le
theorem eqI_nat (a b : Nat) : eqI (a : Int) (b : Int) = Nat.beq a b := by
 unfold eqI
 rw [Bool.eq_iff_iff, W.Z.eqB_iff, Nat.beq_eq]
 exact Int.ofNat_inj
theorem nth_lt {α : Type} {xs : List α} {k : Nat} {v : α} (h : nth xs k = some v) : k < xs.length := by
 rw [nth_get] at h
 exact (List.getElem?_eq_some_iff.mp h).1
theorem idx_nat {H : St} {i k : Nat} {xs : List AV} {v : AV} (h : getLst H i = some xs) (hs : smallL xs = true) (hv : nth xs k = some v) : idxM (.ref i) (.int (k : Int)) H = some v :=
 have hk := nth_lt hv
 ix_l h hs (smallI_nat (Nat.lt_trans hk (Nat.le_of_ble_eq_true hs))) (by rw [ixOf_nat hk]; exact hv)
noncomputable def loB (i : Nat) (xb : Bool) (l h : Nat) (f : AV) (t : Lo) : Lo := (9, .ref i) :: (26, .bool xb) :: (44, .int l) :: (45, .int h) :: (46, f) :: t
section
variable {L : Lvl} {n i l h k r b : Nat} {xb y : Bool} {f v : AV} {t lo lo' : Lo} {ce : Ce} {H H1 H2 : St} {xs vs : List AV} {ys : List Bool} {up : Bool → Bool} {m a d : Int} {x x2 c : X} {p q : Pos} {zs : List X} {z : AV × St} {cl : Nat → List AV → List (Nat × AV) → Nat → St → Option (AV × St)} {body : List S} {op : CmpOp} {u w : AV} {g : Bool}
theorem b_half (hl : l < 500000) (hh : h < 500000) : binM .FloorDiv (.int ((l : Int) + (h : Int))) (.int 2) H = some (.int ((l + h) / 2 : Nat), H) := by
 have e : binM .FloorDiv (.int ((l : Int) + (h : Int))) (.int 2) H = gd (smallI ((l : Int) + h) && true) (some (.int (Int.fdiv ((l : Int) + h) 2), H)) := rfl
 rw [e, show smallI ((l : Int) + h) = true from smallI_b (by omega) (by omega), Int.fdiv_eq_ediv_of_nonneg _ (by decide)]
 exact congrArg (fun i => some (AV.int i, H)) (by omega)
theorem v_vcall (e1 : varM k lo ce H = some v) (e2 : isClo v = true) (e3 : evs (fun x H => L.ev x lo ce b H) zs H = some (vs, H1)) (e4 : L.vc v vs b H1 = some z) : (Mine.Pl.up cl L).ev (.vcall k zs q p) lo ce b H = some z := by
 show ob1 (varM k lo ce H) (fun f => gd (isClo f) <| ob2 (evs (fun x H => L.ev x lo ce b H) zs H) fun vs H => L.vc f vs b H) = _
 rw [e1]; show gd (isClo v) _ = _; rw [e2]; show ob2 (evs (fun x H => L.ev x lo ce b H) zs H) _ = _; rw [e3]; exact e4
theorem v_cmpv (e1 : L.ev x lo ce b H = some (u, H1)) (e2 : L.ev x2 lo ce b H1 = some (w, H2)) (e3 : cmpM op u w H2 = some g) : (Mine.Pl.up cl L).ev (.cmp x op x2 p) lo ce b H = some (.bool g, H2) := by
 show ob2 (L.ev x lo ce b H) (fun u H => ob2 (L.ev x2 lo ce b H) fun v H => ob1 (cmpM op u v H) fun t => some (AV.bool t, H)) = _
 rw [e1]; show ob2 (L.ev x2 lo ce b H1) _ = _; rw [e2]; show ob1 (cmpM op u w H2) _ = _; rw [e3]; rfl
theorem bis_l (hf : isClo f = true) (hi : getLst H i = some xs) (hs : smallL xs = true) (hv : nth xs ((l + h) / 2) = some (.int m)) (hl : l < 500000) (hh : h < 500000) (hq : (lvlO (n+2)).vc f [.int m] b H = some (.bool y, H)) :
  (lvlO (n+5)).ex Zt22 (loB i xb l h f t) [] b H = some (.nx, cond (!y && xb) (loB i xb ((l + h) / 2 + 1) h f (setL 29 (.int ((l + h) / 2 : Nat)) t)) (loB i xb l ((l + h) / 2) f (setL 29 (.int ((l + h) / 2 : Nat)) t)), H) := by
 have h29 : lkp 29 (loB i xb l h f (setL 29 (.int ((l + h) / 2 : Nat)) t)) = some (.int ((l + h) / 2 : Nat)) := lk_self (lo := t)
 show exS (lvlO (n+4)) _ _ _ _ _ = _
 refine Eq.trans (exS_nx (lo1 := loB i xb l h f (setL 29 (.int ((l + h) / 2 : Nat)) t)) (x_asg (v_bin (v_bin rfl rfl rfl) rfl (b_half hl hh)) rfl)) (exS_nx (ex_if (t := !y && xb) (v_cmp (v_vcall rfl hf (evs_1 (v_idx rfl (v_lk rfl h29) (idx_nat hi hs hv))) hq) rfl rfl) ?_))
 cases !y && xb with
 | true => exact exS_nx (x_asg (v_bin (v_lk rfl h29) rfl rfl) rfl)
 | false => exact exS_nx (x_asg (v_lk rfl h29) rfl)
theorem bis_r (hf : isClo f = true) (hi : getLst H i = some xs) (hs : smallL xs = true) (hv : nth xs ((l + h) / 2) = some (.int m)) (hl : l < 500000) (hh : h < 500000) (hq : (lvlO (n+2)).vc f [.int m] b H = some (.bool y, H)) :
  (lvlO (n+5)).ex Zt20 (loB i xb l h f t) [] b H = some (.nx, cond (!(!xb && y)) (loB i xb ((l + h) / 2 + 1) h f (setL 29 (.int ((l + h) / 2 : Nat)) t)) (loB i xb l ((l + h) / 2) f (setL 29 (.int ((l + h) / 2 : Nat)) t)), H) := by
 have h29 : lkp 29 (loB i xb l h f (setL 29 (.int ((l + h) / 2 : Nat)) t)) = some (.int ((l + h) / 2 : Nat)) := lk_self (lo := t)
 show exS (lvlO (n+4)) _ _ _ _ _ = _
 refine Eq.trans (exS_nx (lo1 := loB i xb l h f (setL 29 (.int ((l + h) / 2 : Nat)) t)) (x_asg (v_bin (v_bin rfl rfl rfl) rfl (b_half hl hh)) rfl)) (exS_nx (ex_if (t := !xb && y) (v_cmp rfl (v_vcall rfl hf (evs_1 (v_idx rfl (v_lk rfl h29) (idx_nat hi hs hv))) hq) rfl) ?_))
 cases !xb && y with
 | true => exact exS_nx (x_asg (v_lk rfl h29) rfl)
 | false => exact exS_nx (x_asg (v_bin (v_lk rfl h29) rfl rfl) rfl)
theorem whil_go {c : X} (h1 : L.tv c lo ce b H = some (true, H)) (h2 : L.ex body lo ce b H = some (.nx, lo', H)) : whilM L c body ce b (n + 1) lo H = whilM L c body ce b n lo' H := by
 show ob2 (L.tv c lo ce b H) _ = _
 rw [h1]; show obX (L.ex body lo ce b H) _ _ = _; rw [h2]; rfl
theorem whil_end {c : X} (h1 : L.tv c lo ce b H = some (false, H)) : whilM L c body ce b (n + 1) lo H = some (.nx, lo, H) := by
 show ob2 (L.tv c lo ce b H) _ = _
 rw [h1]; rfl
theorem bis_while (hc : ∀ l h t, L.tv c (loB i xb l h f t) [] b H = some (Nat.blt l h, H))
  (hy : ∀ l h t y, l < 500000 → h < 500000 → nth ys ((l + h) / 2) = some y → L.ex body (loB i xb l h f t) [] b H = some (.nx, cond (up y) (loB i xb ((l + h) / 2 + 1) h f (setL 29 (.int ((l + h) / 2 : Nat)) t)) (loB i xb l ((l + h) / 2) f (setL 29 (.int ((l + h) / 2 : Nat)) t)), H)) (k : Nat) :
  ∀ (l h : Nat) (t : Lo), l < 400000 → h < 400000 → bisM up ys k l h = some r → ∃ t' h', whilM L c body [] b k (loB i xb l h f t) H = some (.nx, loB i xb r h' f t', H) := by
 induction k with
 | zero => exact fun _ _ _ _ _ e => nomatch e
 | succ k ih =>
  intro l h t hl hh e
  have hc := hc l h t
  rcases cond_inv e with ⟨q, e⟩ | ⟨q, e⟩ <;> rw [q] at hc
  ·obtain ⟨y, hn, e⟩ := ob1_inv e
   have hlt : l < h := Nat.le_of_ble_eq_true q
   have st := hy l h t y (by omega) (by omega) hn
   rw [whil_go hc st]
   rcases cond_inv e with ⟨q, e⟩ | ⟨q, e⟩ <;> rw [q]
   ·exact ih _ _ _ (by omega) hh e
   ·exact ih _ _ _ hl (by omega) e
  ·obtain rfl := sI1 e
   exact ⟨t, h, whil_end hc⟩
variable {ps : List (Nat × Pos)} {bd : X} {kd : List (Nat × K3)} {mo : List (Str × Const)} {cs : List (Nat × Nat)}
theorem bisL_c (hi : getLst H i = some xs) (hs : smallL xs = true) (hy : ∀ m y, nth ys m = some y → ∃ k, nth xs m = some (.int k) ∧ (lvlO (n+2)).vc (.cloX ps bd kd mo cs) [.int k] H.length H = some (.bool y, H)) (hl : l < 400000) (hh : h < 400000) (e : bisL xb ys 100 l h = some r) :
  (lvlO (n+8)).cl 8 [.ref i, .bool xb, .int l, .int h] [(46, .cloX ps bd kd mo cs)] b H = some (.int r, H) := by
 obtain ⟨t', h', hw⟩ := bis_while (L := lvlO (n+5)) (c := Zt21) (body := Zt22) (f := .cloX ps bd kd mo cs) (b := H.length) (H := H) (i := i) (xb := xb) (fun l h t => v_cmp (L := lvlO (n+4)) rfl rfl (congrArg some (ltI_nat l h))) (fun l h t y hl hh hn => (hy _ _ hn).elim fun k q => bis_l rfl hi hs q.1 hl hh q.2) 100 l h [] hl hh e
 have hx : Rt (exS (lvlO (n+6)) b8 (loB i xb l h (.cloX ps bd kd mo cs) []) [] H.length H) (.int r) H :=
  Rt.if_f (v_cmp rfl rfl (congrArg some (ltI_cast l))) rfl (Rt.if_f (t := false) rfl rfl (Rt.st (ex_if (t := false) rfl (exS_nx hw)) (Rt.ret rfl)) rfl) rfl
 show clS fns (lvlO (n+7)) 8 [.ref i, .bool xb, .int l, .int h] [(46, .cloX ps bd kd mo cs)] b H = _
 exact cl_run (L := lvlO (n+7)) (fn := f8) (binds := loB i xb l h (.cloX ps bd kd mo cs) []) (lo := loB i xb l h (.cloX ps bd kd mo cs) []) rfl rfl rfl rfl rfl hx rfl
theorem bisR_c (hi : getLst H i = some xs) (hs : smallL xs = true) (hy : ∀ m y, nth ys m = some y → ∃ k, nth xs m = some (.int k) ∧ (lvlO (n+2)).vc (.cloX ps bd kd mo cs) [.int k] H.length H = some (.bool y, H)) (hl : l < 400000) (hh : h < 400000) (e : bisR xb ys 100 l h = some r) :
  (lvlO (n+8)).cl 7 [.ref i, .bool xb, .int l, .int h] [(46, .cloX ps bd kd mo cs)] b H = some (.int r, H) := by
 obtain ⟨t', h', hw⟩ := bis_while (L := lvlO (n+5)) (c := Zt19) (body := Zt20) (f := .cloX ps bd kd mo cs) (b := H.length) (H := H) (i := i) (xb := xb) (fun l h t => v_cmp (L := lvlO (n+4)) rfl rfl (congrArg some (ltI_nat l h))) (fun l h t y hl hh hn => (hy _ _ hn).elim fun k q => bis_r rfl hi hs q.1 hl hh q.2) 100 l h [] hl hh e
 have hx : Rt (exS (lvlO (n+6)) b7 (loB i xb l h (.cloX ps bd kd mo cs) []) [] H.length H) (.int r) H :=
  Rt.if_f (v_cmp rfl rfl (congrArg some (ltI_cast l))) rfl (Rt.if_f (t := false) rfl rfl (Rt.st (ex_if (t := false) rfl (exS_nx hw)) (Rt.ret rfl)) rfl) rfl
 show clS fns (lvlO (n+7)) 7 [.ref i, .bool xb, .int l, .int h] [(46, .cloX ps bd kd mo cs)] b H = _
 exact cl_run (L := lvlO (n+7)) (fn := f7) (binds := loB i xb l h (.cloX ps bd kd mo cs) []) (lo := loB i xb l h (.cloX ps bd kd mo cs) []) rfl rfl rfl rfl rfl hx rfl
end
noncomputable def pairV (v w : AV) : AV := .tup [v, w]
noncomputable def fewF (v : AV) : Option AV := asT v fun xs => tk2 xs fun a b => asI a fun x => asI b fun y => cond (ltI x y) (some (.int x)) none
noncomputable def greatM (xs ys : List Int) : Bool := ((List.zipWith pairV (xs.map AV.int) (ys.map AV.int)).filterMap fewF).isEmpty
section
variable {xs ys : List AV} {H : St} {k i j : Nat} {s t : Src}
theorem src_tup (h : smallL xs = true) : srcAt H (.tup xs) k = some (nth xs k) := by
 show gd (smallL xs) _ = _
 rw [h]; rfl
theorem src_lst (hi : getLst H i = some xs) (h : smallL xs = true) : srcAt H (.lst i) k = some (nth xs k) := by
 show ob1 (getLst H i) _ = _
 rw [hi]; exact src_tup (H := H) h
theorem nth_zip (xs : List AV) : ∀ (ys : List AV) (k : Nat), nth (List.zipWith pairV xs ys) k = ob1 (nth xs k) fun v => ob1 (nth ys k) fun w => some (pairV v w) := by
 induction xs with
 | nil => intro ys k; cases k <;> rfl
 | cons x xs ih =>
  intro ys k
  cases ys with
  | nil =>
   show none = _
   cases nth (x :: xs) k <;> rfl
  | cons y ys =>
   cases k with
   | zero => rfl
   | succ k => exact ih ys k
theorem src_zip (h1 : srcAt H s k = some (nth xs k)) (h2 : srcAt H t k = some (nth ys k)) : srcAt H (.zp s t) k = some (nth (List.zipWith pairV xs ys) k) := by
 show ob1 (srcAt H s k) _ = _
 rw [h1, nth_zip]
 cases nth xs k with
 | none => rfl
 | some v =>
  show ob1 (srcAt H t k) _ = _
  rw [h2]; rfl
theorem eq_nil (h1 : getLst H i = some xs) (h2 : smallL xs = true) (h3 : getLst H j = some []) : eqM (.ref i) (.ref j) H = some xs.isEmpty := by
 show alt (ob1 (getLst H i) fun xs => ob1 (getLst H j) fun ys => gd (smallL xs && smallL ys) <| cond (Nat.beq xs.length ys.length) (eqs eq0 xs ys) (some false)) _ = _
 rw [h1]; show alt (ob1 (getLst H j) _) _ = _
 rw [h3]; show alt (gd (smallL xs && true) _) _ = _
 rw [h2]
 cases xs <;> rfl
theorem getLst_2 (H : St) (xs : List AV) (y : AO) : getLst (H ++ [.lst xs] ++ [y]) H.length = some xs := by
 unfold getLst
 rw [List.append_assoc, List.singleton_append, nth_mid]
theorem zip_in {xs ys : List Int} (x : AV) : x ∈ List.zipWith pairV (xs.map .int) (ys.map .int) → ∃ a b : Int, x = .tup [.int a, .int b] := by
 induction xs generalizing ys with
 | nil => exact nofun
 | cons a r ih =>
  cases ys with
  | nil => exact nofun
  | cons c t =>
   intro hx
   cases hx with
   | head => exact ⟨a, c, rfl⟩
   | tail _ m => exact ih m
theorem few_in {n b : Nat} {lo : Lo} {H : St} {a c : Int} : (fewF (.tup [.int a, .int c])).elim (tests (fun x lo H => (lvlO (n+4)).tv x lo [] b H) (setL 114 (.int c) (setL 101 (.int a) lo)) Zt11 H = some (false, H)) fun v => tests (fun x lo H => (lvlO (n+4)).tv x lo [] b H) (setL 114 (.int c) (setL 101 (.int a) lo)) Zt11 H = some (true, H) ∧ (lvlO (n+4)).ev (.var 101 ⟨256,12,256,18⟩) (setL 114 (.int c) (setL 101 (.int a) lo)) [] b H = some (v, H) := by
 have e1 : (lvlO (n+4)).ev (.var 101 ⟨256,12,256,18⟩) (setL 114 (.int c) (setL 101 (.int a) lo)) [] b H = some (.int a, H) := v_lk rfl (lk_ne rfl lk_self)
 have e2 : (lvlO (n+4)).tv Zt5 (setL 114 (.int c) (setL 101 (.int a) lo)) [] b H = some (ltI a c, H) := v_cmp (L := lvlO (n+3)) (v_lk rfl (lk_ne rfl lk_self)) (v_lk rfl lk_self) rfl
 have e3 : tests (fun x lo H => (lvlO (n+4)).tv x lo [] b H) (setL 114 (.int c) (setL 101 (.int a) lo)) Zt11 H = some (ltI a c, H) := by
  show ob2 ((lvlO (n+4)).tv _ _ _ _ _) _ = _
  rw [e2]
  cases ltI a c <;> rfl
 have e4 : fewF (.tup [.int a, .int c]) = cond (ltI a c) (some (.int a)) none := rfl
 rw [e4, e3]
 cases ltI a c with
 | true => exact ⟨rfl, e1⟩
 | false => rfl
theorem great_x {n : Nat} {xs ys : List Int} {H : St} (h1 : smallL xs = true) (h2 : smallL ys = true) (h3 : xs.length < 100) :
  RtV (exS (lvlO (n+6)) b19 [(99, .tup (xs.map .int)), (113, .tup (ys.map .int))] [] H.length H) (.bool (greatM xs ys)) := by
 have g1 : smallL (xs.map AV.int) = true := by rw [smallL_map]; exact h1
 have g2 : smallL (ys.map AV.int) = true := by rw [smallL_map]; exact h2
 have hz : (List.zipWith pairV (xs.map .int) (ys.map .int)).length < 100 := Nat.lt_of_le_of_lt (by rw [List.length_zipWith, List.length_map]; exact Nat.min_le_left _ _) h3
 have hc := comp1 (L := lvlO (n+4)) (elt := (.var 101 ⟨256,12,256,18⟩)) (t := Zt9) (it := Zt10) (ifs := Zt11) (kd := [(77, .loc), (101, .loc), (114, .loc)]) (lo := [(99, .tup (xs.map .int)), (113, .tup (ys.map .int))]) (ce := []) (b := H.length) (H := H) (H1 := H) (s := .zp (.tup (xs.map .int)) (.tup (ys.map .int))) (List.zipWith pairV (xs.map .int) (ys.map .int)) fewF rfl
  (ble_self _) (fun zs k => src_zip (src_tup g1) (src_tup g2)) hz fun x hx lo zs => by
   obtain ⟨a, c, rfl⟩ := zip_in x hx
   exact ⟨setL 114 (.int c) (setL 101 (.int a) lo), rfl, few_in⟩
 have hsm : smallL ((List.zipWith pairV (xs.map AV.int) (ys.map AV.int)).filterMap fewF) = true := Nat.ble_eq_true_of_le (Nat.lt_of_le_of_lt (List.length_filterMap_le _ _) (Nat.lt_trans hz (by decide)))
 exact ⟨_, Rt.ret (v_cmpv (L := lvlO (n+5)) hc rfl (eq_nil (getLst_2 _ _ _) hsm (getLst_last _ _)))⟩
theorem great_c {n : Nat} {xs ys : List Int} {b : Nat} {H : St} (h1 : smallL xs = true) (h2 : smallL ys = true) (h3 : xs.length < 100) :
  (lvlO (n+8)).cl 19 [.tup (xs.map .int), .tup (ys.map .int)] [] b H = some (.bool (greatM xs ys), H) := by
 show clS fns (lvlO (n+7)) 19 [.tup (xs.map .int), .tup (ys.map .int)] [] b H = _
 have hx : RtV ((lvlO (n+7)).ex f19.body [(99, .tup (xs.map .int)), (113, .tup (ys.map .int))] [] H.length H) (.bool (greatM xs ys)) := great_x h1 h2 h3
 exact cl_runV (fn := f19) (binds := [(99, .tup (xs.map .int)), (113, .tup (ys.map .int))]) (lo := [(99, .tup (xs.map .int)), (113, .tup (ys.map .int))]) rfl rfl rfl rfl rfl hx (fun _ => rfl)
end
noncomputable def noDot (l : List Nat) : Bool := l.all fun c => !Nat.beq c 46
theorem pre_nodot {c : Nat} {t : List Nat} (h : (!Nat.beq c 46) = true) : pre dots (c :: t) = false := by
 show (match Nat.beq 46 c with | true => pre [46, 46] t | false => false) = false
 rw [show Nat.beq 46 c = false from Bool.eq_false_iff.mpr fun q => by rw [← Nat.eq_of_beq_eq_true q] at h; exact nomatch h]
theorem pre_app (w t : List Nat) : pre w (w ++ t) = true := by
 induction w with
 | nil => unfold pre; rfl
 | cons a r ih => show (match Nat.beq a a with | true => pre r (r ++ t) | false => false) = true; rw [Nat.beq_refl]; exact ih
theorem isIn_mid (e f : List Nat) : isIn dots (f ++ (dots ++ e)) = true := by
 induction f with
 | nil =>
  show (match pre dots (dots ++ e) with | true => true | false => isIn dots (46 :: 46 :: e)) = true
  rw [pre_app]
 | cons c f ih =>
  show (match pre dots (c :: (f ++ (dots ++ e))) with | true => true | false => isIn dots (f ++ (dots ++ e))) = true
  rw [ih]
  cases pre dots (c :: (f ++ (dots ++ e))) <;> rfl
theorem split_none (e : List Nat) : ∀ (n : Nat) (acc : List Nat), noDot e = true → splitL dots n acc e = [acc.reverse ++ e] := by
 induction e with
 | nil =>
  intro n acc h
  rw [List.append_nil]
  cases n with
  | zero => show [acc.reverse ++ []] = _; rw [List.append_nil]
  | succ n => rfl
 | cons c e ih =>
  intro n acc h
  cases n with
  | zero => rfl
  | succ n =>
   obtain ⟨h1, h2⟩ := and_all h
   show (match pre dots (c :: e) with | true => acc.reverse :: splitL dots n [] ((c :: e).drop 3) | false => splitL dots n (c :: acc) e) = _
   rw [pre_nodot h1]
   show splitL dots n (c :: acc) e = _
   rw [ih n _ h2, List.reverse_cons, List.append_assoc]; rfl
theorem split_two (e : List Nat) (he : noDot e = true) (f : List Nat) : ∀ (n : Nat) (acc : List Nat), noDot f = true → f.length < n → splitL dots n acc (f ++ (dots ++ e)) = [acc.reverse ++ f, e] := by
 induction f with
 | nil =>
  intro n acc h hn
  cases n with
  | zero => exact absurd hn (Nat.lt_irrefl 0)
  | succ n =>
   show (match pre dots (dots ++ e) with | true => acc.reverse :: splitL dots n [] e | false => splitL dots n (46 :: acc) (46 :: 46 :: e)) = _
   rw [pre_app]
   show acc.reverse :: splitL dots n [] e = _
   rw [split_none e n [] he, List.append_nil]; rfl
 | cons c f ih =>
  intro n acc h hn
  cases n with
  | zero => exact absurd hn (Nat.not_lt_zero _)
  | succ n =>
   obtain ⟨h1, h2⟩ := and_all h
   show (match pre dots (c :: (f ++ (dots ++ e))) with | true => acc.reverse :: splitL dots n [] ((c :: (f ++ (dots ++ e))).drop 3) | false => splitL dots n (c :: acc) (f ++ (dots ++ e))) = _
   rw [pre_nodot h1]
   show splitL dots n (c :: acc) (f ++ (dots ++ e)) = _
   rw [ih n _ h2 (Nat.lt_of_succ_lt_succ hn), List.reverse_cons, List.append_assoc]; rfl
theorem pre_len (w : List Nat) : ∀ {s : List Nat}, pre w s = true → w.length ≤ s.length := by
 induction w with
 | nil => exact fun _ => Nat.zero_le _
 | cons a w ih =>
  intro s h
  cases s with
  | nil => exact nomatch h
  | cons b s =>
   have h : (match Nat.beq a b with | true => pre w s | false => false) = true := h
   cases q : Nat.beq a b with
   | true => rw [q] at h; exact Nat.succ_le_succ (ih h)
   | false => rw [q] at h; exact nomatch h
theorem pre_nil (s : List Nat) : pre [] s = true := by cases s <;> rfl
theorem find_nil (s : List Nat) (k : Nat) : findF [] s k = some k := by
 cases s with
 | nil => rfl
 | cons a t => show (match pre [] (a :: t) with | true => some k | false => findF [] t (k + 1)) = _; rfl
section
variable {g e f : List Nat} {s k : Nat} {ws init : List (List Nat)}
theorem loop_nil (sg : smallL g = true) (h1 : s ≤ k) (h2 : k ≤ g.length) (hw : ∀ w ∈ ws, w = []) : ellLoop g k ws s = some true := by
 induction ws with
 | nil => rfl
 | cons w r ih =>
  obtain rfl := hw w (.head _)
  show gd (smallL g && (leI ((0 : Nat) : Int) (s : Int) && (leI (s : Int) (k : Int) && leI (k : Int) (g.length : Int)))) (Option.elim (findF [] ((g.take k).drop s) s) (some false) fun j => ellLoop g k r (j + (0 : Nat))) = _
  rw [sg, leI_nat, leI_nat, leI_nat, Nat.ble_eq_true_of_le (Nat.zero_le _), Nat.ble_eq_true_of_le h1, Nat.ble_eq_true_of_le h2, find_nil]
  exact ih fun w hw' => hw w (.tail _ hw')
theorem tail_ok (sg : smallL g = true) (h1 : s ≤ g.length) (hw : ∀ w ∈ init, w = []) : ellTail g s (init ++ [e]) = some (pre e.reverse g.reverse && Nat.ble (s + e.length) g.length) := by
 unfold ellTail
 rw [List.getLast?_concat]
 show cond (!e.isEmpty) (cond (pre e.reverse g.reverse) (ellEnd g (g.length - e.length) s (init ++ [e]).dropLast) (some false)) (ellEnd g g.length s (init ++ [e])) = _
 cases e with
 | nil =>
  show cond (ltI _ _) (some false) (ellLoop g g.length (init ++ [[]]) s) = _
  rw [loop_nil sg h1 (Nat.le_refl _) fun w hw' => (List.mem_append.mp hw').elim (hw w) fun q => List.mem_singleton.mp q, ltI_nat, show Nat.blt g.length s = false from Bool.eq_false_iff.mpr fun q => Nat.not_lt.mpr h1 (Nat.le_of_ble_eq_true q)]
  show some true = some (pre [] _ && _)
  rw [pre_nil, show Nat.ble (s + ([] : List Nat).length) g.length = true from Nat.ble_eq_true_of_le h1]; rfl
 | cons a r =>
  show cond (pre (a :: r).reverse g.reverse) _ _ = _
  cases q : pre (a :: r).reverse g.reverse with
  | false => rfl
  | true =>
   have hl := pre_len _ q
   rw [List.length_reverse, List.length_reverse] at hl
   show ellEnd g ((g.length : Int) - ((a :: r).length : Int)) s (init ++ [a :: r]).dropLast = _
   rw [List.dropLast_concat, ← Int.ofNat_sub hl]
   show cond (ltI ((g.length - (a :: r).length : Nat) : Int) (s : Int)) (some false) _ = _
   rw [ltI_nat]
   cases q2 : Nat.blt (g.length - (a :: r).length) s with
   | true =>
    have := Nat.le_of_ble_eq_true q2
    rw [show Nat.ble (s + (a :: r).length) g.length = false from Bool.eq_false_iff.mpr fun q3 => by have := Nat.le_of_ble_eq_true q3; omega]; rfl
   | false =>
    have h3 : s ≤ g.length - (a :: r).length := Nat.not_lt.mp fun hlt => by rw [show Nat.blt (g.length - (a :: r).length) s = true from Nat.ble_eq_true_of_le hlt] at q2; exact nomatch q2
    rw [show Nat.ble (s + (a :: r).length) g.length = true from Nat.ble_eq_true_of_le (by omega)]
    exact loop_nil sg h3 (Nat.sub_le _ _) hw
theorem small_1k {α : Type} {l : List α} (h : l.length < 10000) : smallL l = true := Nat.ble_eq_true_of_le (Nat.le_trans h (by decide))
theorem ell_two (hf : noDot f = true) (he : noDot e = true) (sf : f.length < 1000) (se : e.length < 1000) (sg : g.length < 1000) :
  ellO ((f ++ [46, 46, 46]) ++ e) g = some (pre f g && (pre e.reverse g.reverse && Nat.ble (f.length + e.length) g.length)) := by
 have hw : (f ++ [46, 46, 46]) ++ e = f ++ (dots ++ e) := List.append_assoc _ _ _
 have hl : (f ++ (dots ++ e)).length = f.length + (3 + e.length) := by rw [List.length_append, List.length_append]; rfl
 have hs : ellS (f ++ (dots ++ e)) = [f, e] := split_two e he f _ [] hf (by omega)
 have gs : smallL g = true := small_1k (by omega)
 have hc : ellC g (f ++ (dots ++ e)) = true := by
  unfold ellC
  rw [hs, small_1k (by omega), gs]
  show (true && (true && (true && ((smallL f && (smallL e && true)) && (true && true))))) = true
  rw [small_1k (by omega), small_1k (by omega)]; rfl
 rw [hw]
 unfold ellO
 rw [isIn_mid, hc, hs]
 show ellHead g [f, e] = _
 cases f with
 | nil =>
  rw [pre_nil]
  exact tail_ok (init := [[]]) (s := 0) gs (Nat.zero_le _) fun w hw => List.mem_singleton.mp hw
 | cons c s =>
  show cond (pre (c :: s) g) (ellTail g (c :: s).length ([] ++ [e])) (some false) = _
  cases q1 : pre (c :: s) g with
  | false => rfl
  | true => exact tail_ok gs (pre_len _ q1) nofun
theorem ell_front (hf : noDot f = true) (sf : f.length < 1000) (sg : g.length < 1000) : ellO (f ++ [46, 46, 46]) g = some (pre f g) := by
 have h := ell_two (f := f) (e := []) (g := g) hf rfl sf (by decide) sg
 rw [List.append_nil] at h
 rw [h, show pre ([] : List Nat).reverse g.reverse = true from pre_nil _]
 cases q : pre f g with
 | false => rfl
 | true => rw [show Nat.ble (f.length + ([] : List Nat).length) g.length = true from Nat.ble_eq_true_of_le (pre_len _ q)]; rfl
theorem ell_back (he : noDot e = true) (se : e.length < 1000) (sg : g.length < 1000) : ellO ([46, 46, 46] ++ e) g = some (pre e.reverse g.reverse) := by
 have h := ell_two (f := []) (e := e) (g := g) rfl he (by decide) se sg
 rw [List.nil_append] at h
 rw [h, pre_nil]
 cases q : pre e.reverse g.reverse with
 | false => rfl
 | true =>
  have := pre_len _ q
  rw [List.length_reverse, List.length_reverse] at this
  rw [show Nat.ble (([] : List Nat).length + e.length) g.length = true from Nat.ble_eq_true_of_le (by rw [List.length_nil, Nat.zero_add]; exact this)]; rfl
end
theorem cl0 {n : Nat} {w g : List Nat} {t : Bool} {b : Nat} {H : St} (h : ellO w g = some t) : (lvlO (n+1)).cl 0 [.str w, .str g] [] b H = some (.bool t, H) := by
 show ob1 (ob1 (ellO w g) _) _ = _
 rw [h]; rfl
noncomputable def ceL : Ce := [(120, 6), (121, 5), (122, 4), (134, 3), (135, 2), (143, 1), (94, 0)]
noncomputable def rowV (r : List Int × List Nat) : AV := .tup [.tup (r.1.map .int), .str r.2]
section
variable {H t : St} {i j : Nat} {xs : List AV} {v : AV}
theorem nth_app {α : Type} {l t : List α} {i : Nat} {x : α} (h : nth l i = some x) : nth (l ++ t) i = some x := by
 rw [nth_get] at h ⊢
 rw [List.getElem?_append_left (List.getElem?_eq_some_iff.mp h).1, h]
theorem lst_at : getLst H i = some xs ↔ nth H i = some (.lst xs) := by
 refine ⟨fun h => ?_, fun h => by unfold getLst; rw [h]⟩
 unfold getLst at h
 cases q : nth H i with
 | none => rw [q] at h; exact nomatch h
 | some o =>
  rw [q] at h
  cases o with
  | lst ys => rw [sI1 h]
  | cell => exact nomatch h
theorem cell_at : getCell H i = some v ↔ nth H i = some (.cell (some v)) := by
 refine ⟨fun h => ?_, fun h => by unfold getCell; rw [h]⟩
 unfold getCell at h
 cases q : nth H i with
 | none => rw [q] at h; exact nomatch h
 | some o =>
  rw [q] at h
  cases o with
  | lst ys => exact nomatch h
  | cell w =>
   cases w with
   | none => exact nomatch h
   | some w => rw [sI1 h]
theorem getLst_app (h : getLst H i = some xs) : getLst (H ++ t) i = some xs := lst_at.mpr (nth_app (lst_at.mp h))
theorem getCell_app (h : getCell H i = some v) : getCell (H ++ t) i = some v := cell_at.mpr (nth_app (cell_at.mp h))
theorem nth_setN {α : Type} {l : List α} {v x : α} (j : Nat) (h : nth l j = some x) (i : Nat) : nth (setN v l i) j = some (cond (Nat.beq i j) v x) := by
 induction l generalizing i j with
 | nil => exact nomatch h
 | cons a r ih =>
  cases i with
  | zero =>
   cases j with
   | zero => rfl
   | succ j => exact h
  | succ i =>
   cases j with
   | zero => exact h
   | succ j => exact ih j h i
end
structure Sfx (c0 c1 c2 c3 : Int) (rows : List (List Int × List Nat)) (ring worths : List Int) (H : St) : Prop where
 a : ∀ i o, nth [some (.cell (some (.ref 10))), none, none, none, none, some (.cell (some (.ref 14))), some (.cell (some (.ref 11))), some (.lst [.int c0, .int c1, .int c2, .int c3]), none, none, some (.lst (worths.map .int)), some (.lst (rows.map rowV)), none, none, some (.lst (rows.map fun x => .str x.2)), none, none, none, none, some (.lst (ring.map .int))] i = some (some o) → nth H i = some o
 k : ∀ i, (Nat.blt 0 i && Nat.blt i 4) = true → ∃ v, nth H i = some (.cell v)
section
variable {c0 c1 c2 c3 : Int} {rows : List (List Int × List Nat)} {ring worths : List Int} {H : St} (s : Sfx c0 c1 c2 c3 rows ring worths H)
include s
theorem Sfx.w : getCell H 0 = some (.ref 10) := cell_at.mpr (s.a 0 _ rfl)
theorem Sfx.n : getCell H 5 = some (.ref 14) := cell_at.mpr (s.a 5 _ rfl)
theorem Sfx.r : getCell H 6 = some (.ref 11) := cell_at.mpr (s.a 6 _ rfl)
theorem Sfx.l7 : getLst H 7 = some [.int c0, .int c1, .int c2, .int c3] := lst_at.mpr (s.a 7 _ rfl)
theorem Sfx.l10 : getLst H 10 = some (worths.map .int) := lst_at.mpr (s.a 10 _ rfl)
theorem Sfx.l11 : getLst H 11 = some (rows.map rowV) := lst_at.mpr (s.a 11 _ rfl)
theorem Sfx.l14 : getLst H 14 = some (rows.map fun x => .str x.2) := lst_at.mpr (s.a 14 _ rfl)
theorem Sfx.l19 : getLst H 19 = some (ring.map .int) := lst_at.mpr (s.a 19 _ rfl)
theorem Sfx.app (t : St) : Sfx c0 c1 c2 c3 rows ring worths (H ++ t) := ⟨fun i o e => nth_app (s.a i o e), fun i h => (s.k i h).imp fun _ e => nth_app e⟩
theorem Sfx.set (i : Nat) (hi : (Nat.blt 0 i && Nat.blt i 4) = true) (v : Option AV) : Sfx c0 c1 c2 c3 rows ring worths (setN (.cell v) H i) := by
 refine ⟨fun j o e => ?_, fun j hj => (s.k j hj).elim fun w e => ?_⟩
 ·rw [nth_setN j (s.a j o e) i]
  cases q : Nat.beq i j with
  | false => rfl
  | true =>
   obtain rfl := Nat.eq_of_beq_eq_true q
   rcases i with _ | _ | _ | _ | i
   ·exact nomatch hi
   ·exact nomatch e
   ·exact nomatch e
   ·exact nomatch e
   ·exact nomatch hi
 ·rw [nth_setN j e i]
  cases Nat.beq i j
  ·exact ⟨_, rfl⟩
  ·exact ⟨_, rfl⟩
end
section
variable {H H1 H2 t : St} {i j k : Nat} {xs : List AV} {v w : AV} {cl : Nat → List AV → List (Nat × AV) → Nat → St → Option (AV × St)} {L : Lvl} {b n m f q : Nat} {lo lo' : Lo} {ce : Ce} {u : AV} {l r x y c : X} {p np : Pos} {z : AV × St} {vs : List AV} {es : List X} {kw : List Kw} {ks : List (Nat × AV)} {g : Bool} {ns : List Int} {ss : List (List Nat)} {a d e : Int} {s1 s2 : List Nat} {op : UnaryOp}
theorem v_gcall (e1 : evs (fun x H => L.ev x lo ce b H) es H = some (vs, H1)) (e2 : evk (fun x H => L.ev x lo ce b H) kw H1 = some (ks, H2)) (e3 : L.cl f vs ks b H2 = some z) : (Mine.Pl.up cl L).ev (.gcall f q es kw np p) lo ce b H = some z := by
 show ob2 (evs (fun x H => L.ev x lo ce b H) es H) (fun vs H => ob2 (evk (fun x H => L.ev x lo ce b H) kw H) fun ks H => L.cl f vs ks b H) = _
 rw [e1]; show ob2 (evk (fun x H => L.ev x lo ce b H) kw H1) _ = _; rw [e2]; exact e3
theorem v_un (e1 : L.ev x lo ce b H = some (u, H1)) (e2 : unM op u H1 = some v) : (Mine.Pl.up cl L).ev (.un op x p) lo ce b H = some (v, H1) := by
 show ob2 (L.ev x lo ce b H) (fun v H => ob1 (unM op v H) fun v => some (v, H)) = _
 rw [e1]; show ob1 (unM op u H1) _ = _; rw [e2]; rfl
theorem b_mod (h : eqI d 0 = false) : binM .Mod (.int a) (.int d) H = some (.int (Int.fmod a d), H) := by
 show alt (gd (!eqI d 0) _) _ = _
 rw [h]; rfl
theorem b_fd (h : smallI a = true) (h2 : smallI d = true) (h0 : eqI d 0 = false) : binM .FloorDiv (.int a) (.int d) H = some (.int (Int.fdiv a d), H) := by
 show gd (smallI a && (smallI d && !eqI d 0)) _ = _
 rw [h, h2, h0]; rfl
theorem b_adds (h : smallL s1 = true) (h2 : smallL s2 = true) : binM .Add (.str s1) (.str s2) H = some (.str (s1 ++ s2), H) := by
 show alt (gd (smallL s1 && smallL s2) _) _ = _
 rw [h, h2]; rfl
theorem rc_lst (h : getLst H j = some xs) : isLst H (.ref j) = some () := by
 show ob1 (getLst H j) _ = _
 rw [h]; rfl
theorem strsOf_map (ns : List (List Nat)) : strsOf (ns.map .str) = some ns := by
 induction ns with
 | nil => rfl
 | cons x r ih => show ob1 (strsOf (r.map AV.str)) _ = _; rw [ih]; rfl
theorem intsOf_map (ns : List Int) : intsOf (ns.map .int) = some ns := by
 induction ns with
 | nil => rfl
 | cons x r ih => show ob1 (intsOf (r.map AV.int)) _ = _; rw [ih]; rfl
theorem ix_str (h : getLst H j = some (ss.map .str)) (h2 : smallL ss = true) (h3 : findIx (fun x => eqL x s1) ss 0 = some k) : mfM .index (.ref j) [.str s1] b H = some (.int k, H) := by
 show ob1 (getLst H j) (fun xs => ob1 (strsOf xs) fun ns => gd (smallL ns) <| ob1 (findIx (fun x => eqL x s1) ns 0) fun k => some (AV.int (k : Nat), H)) = _
 rw [h]; show ob1 (strsOf (ss.map AV.str)) _ = _; rw [strsOf_map]; show gd (smallL ss) _ = _; rw [h2]; show ob1 (findIx (fun x => eqL x s1) ss 0) _ = _; rw [h3]; rfl
theorem ix_int (h : getLst H j = some (ns.map .int)) (h2 : smallL ns = true) (h3 : findIx (fun x => eqI x a) ns 0 = some k) : mfM .index (.ref j) [.int a] b H = some (.int k, H) := by
 show alt (ob1 (getLst H j) (fun xs => ob1 (intsOf xs) fun ns => gd (smallL ns) <| ob1 (findIx (fun x => eqI x a) ns 0) fun k => some (AV.int (k : Nat), H))) _ = _
 rw [h]; show alt (ob1 (intsOf (ns.map AV.int)) _) _ = _; rw [intsOf_map]; show alt (gd (smallL ns) _) _ = _; rw [h2]; show alt (ob1 (findIx (fun x => eqI x a) ns 0) _) _ = _; rw [h3]; rfl
theorem st_cell (h : lkp k ce = some i) (g : ∃ w, nth H i = some (.cell w)) (hb : Nat.ble b i = true) : storeM k v lo ce b H = some (lo, setN (.cell (some v)) H i) := by
 obtain ⟨w, g⟩ := g
 unfold storeM
 rw [h]; show ob1 (nth H i) _ = _; rw [g]; show gd (Nat.ble b i && true) _ = _; rw [hb]; rfl
theorem x_asgn {kp : Pos} (e : L.ev x lo ce b H = some (v, H1)) (h : storeM k v lo ce b H1 = some (lo', H2)) : ex1 L (.asg (.name k kp) x p) lo ce b H = some (.nx, lo', H2) := x_asgt e h
theorem b_rng (h : smallI a = true) : bfM .range [.int a] H = some (.rng 0 a 1, H) := by
 show alt (gd (smallI a) _) _ = _
 rw [h]; rfl
theorem b_rng2 (h : smallI a = true) (h2 : smallI d = true) : bfM .range [.int a, .int d] H = some (.rng a d 1, H) := by
 show alt (gd (smallI a && smallI d) _) _ = _
 rw [h, h2]; rfl
theorem b_list (h : smallI a = true) (h2 : smallI d = true) (h3 : Nat.blt (rangeN a d 1) 1000 = true) : bfM .list [.rng a d 1] H = newL H ((rangeL a d 1).map .int) := by
 show alt (gd (smallI a && smallI d && true && true && Nat.blt (rangeN a d 1) 1000) _) _ = _
 rw [h, h2, h3]; rfl
theorem c_ne (h : eqM u v H = some g) : cmpM .NotEq u v H = some !g := by
 show ob1 (eqM u v H) _ = _
 rw [h]; rfl
theorem tests_one {t : Bool} (h : L.tv x lo ce b H = some (t, H)) : tests (fun x lo H => L.tv x lo ce b H) lo [x] H = some (t, H) := by
 show ob2 (L.tv x lo ce b H) _ = _
 rw [h]; cases t <;> rfl
theorem v_set (h : lkp k ceL = none) : (lvlO (n+1)).ev (.var k p) (setL k v lo) ceL b H = some (v, H) := v_lk h lk_self
end
section
variable {c0 c1 c2 c3 : Int} {rows : List (List Int × List Nat)} {ring worths : List Int} {H : St} {n m b : Nat} {lo : Lo} {ringN : List Nat} {x : List Int × List Nat} {z k k1 k2 k3 r o1 o2 size : Nat} {f e n1 n2 : List Nat}
variable (s : Sfx c0 c1 c2 c3 rows ring worths H)
theorem nth_name (hn : nth rows k = some x) : nth (rows.map fun x => AV.str x.2) k = some (.str x.2) := by
 rw [nth_map, hn]; rfl
theorem nth_nm (hn : nth (rows.map fun x => x.2) k = some f) : nth (rows.map fun x => AV.str x.2) k = some (.str f) := by
 rw [nth_map] at hn ⊢
 obtain ⟨x, e, rfl⟩ := Option.map_eq_some_iff.mp hn
 rw [e]; rfl
theorem e1_ne (k : Nat) : eqI ((k : Int) + 1) 0 = false := Bool.eq_false_iff.mpr fun q => by have := (W.Z.eqB_iff _ _).mp q; omega
include s
theorem e_15 (hc : lkp 116 lo = some (.ref 7)) (hz : lkp 83 lo = some (.int size)) (h0 : eqI (size : Int) 0 = false) (h1 : Int.fmod c2 size = o1) (h2 : Int.fmod c3 size = o2) :
  exS (lvlO (n+12)) [Zt44] lo ceL 0 H = some (.nx, setL 132 (.int o1) (setL 133 (.int o2) lo), H) := by
 rw [← h1, ← h2]
 exact exS_nx (x_asw (evs_2 (v_bin (v_idx (v_lk rfl hc) rfl (idx_nat (k := 2) s.l7 rfl rfl)) (v_lk rfl hz) (b_mod h0)) (v_bin (v_idx (v_lk rfl hc) rfl (idx_nat (k := 3) s.l7 rfl rfl)) (v_lk rfl hz) (b_mod h0))) rfl)
theorem e_16 (hc : lkp 116 lo = some (.ref 7)) (ho : lkp 132 lo = some (.int o1)) (hs : smallL rows = true) (hn : nth (rows.map fun x => x.2) o1 = some n1) (hm : smallI c2 = true) (hnl : n1.length < 1000)
  (hf : Int.fmod (Int.fdiv c2 16) ((n1.length : Int) + 1) = k) (hfl : k < 1000) (hsl : smallL (sliceS n1 none (some (k : Int)) none) = true) :
  exS (lvlO (n+12)) [Zt45] lo ceL 0 H = some (.nx, lo, setN (.cell (some (.str (sliceS n1 none (some (k : Int)) none)))) H 3) := by
 have hix := idx_nat s.l14 (by rw [smallL_map]; exact hs) (nth_nm hn)
 have e1 := b_mod (H := H) (a := Int.fdiv c2 16) (e1_ne n1.length)
 rw [hf] at e1
 have hx : ∀ {m p q r}, (lvlO (m+2)).ev (.idx (.var 121 p) (.var 132 q) r) lo ceL 0 H = some (.str n1, H) := v_idx (v_var s.n) (v_lk rfl ho) hix
 exact exS_nx (x_asgn (v_slc hx rfl (evo_so (v_bin (v_bin (v_idx (v_lk rfl hc) rfl (idx_nat (k := 2) s.l7 rfl rfl)) rfl (b_fd hm rfl rfl)) (v_bin (v_bcall (evs_1 hx) (b_lenS (small_1k (by omega)))) rfl rfl) e1) (smallI_nat (by omega))) rfl (sl_s rfl hsl)) (st_cell rfl (s.k 3 rfl) rfl))
theorem e_17 (hc : lkp 116 lo = some (.ref 7)) (ho : lkp 133 lo = some (.int o2)) (hs : smallL rows = true) (hn : nth (rows.map fun x => x.2) o2 = some n2) (hm : smallI c3 = true) (hnl : n2.length < 1000)
  (hf : Int.fmod (Int.fdiv c3 16) ((n2.length : Int) + 1) = k) (hfl : k < 1000) (hsl : smallL (sliceS n2 (some (k : Int)) none none) = true) :
  exS (lvlO (n+12)) [Zt46] lo ceL 0 H = some (.nx, lo, setN (.cell (some (.str (sliceS n2 (some (k : Int)) none none)))) H 2) := by
 have hix := idx_nat s.l14 (by rw [smallL_map]; exact hs) (nth_nm hn)
 have e1 := b_mod (H := H) (a := Int.fdiv c3 16) (e1_ne n2.length)
 rw [hf] at e1
 have hx : ∀ {m p q r}, (lvlO (m+2)).ev (.idx (.var 121 p) (.var 133 q) r) lo ceL 0 H = some (.str n2, H) := v_idx (v_var s.n) (v_lk rfl ho) hix
 exact exS_nx (x_asgn (v_slc hx (evo_so (v_bin (v_bin (v_idx (v_lk rfl hc) rfl (idx_nat (k := 3) s.l7 rfl rfl)) rfl (b_fd hm rfl rfl)) (v_bin (v_bcall (evs_1 hx) (b_lenS (small_1k (by omega)))) rfl rfl) e1) (smallI_nat (by omega))) rfl rfl (sl_s rfl hsl)) (st_cell rfl (s.k 2 rfl) rfl))
theorem l14m : getLst H 14 = some ((rows.map fun x => x.2).map AV.str) := s.l14.trans (congrArg some (List.map_map (l := rows)).symm)
theorem e_18 (hr : lkp 131 lo = some (.ref 19)) (hf : getCell H 3 = some (.str f)) (he : getCell H 2 = some (.str e)) (hs : smallL rows = true) (hs2 : smallL ring = true)
  (i1 : findIx (fun x => eqL x f) (rows.map fun x => x.2) 0 = some k1) (i2 : findIx (fun x => eqL x e) (rows.map fun x => x.2) 0 = some k2) (i3 : findIx (fun x => eqI x k2) ring 0 = some k3) :
  exS (lvlO (n+12)) [Zt47] lo ceL 0 H = some (.nx, setL 79 (.int k1) (setL 136 (.int k3) lo), H) := by
 have l14 := l14m s
 have hs' : smallL (rows.map fun x => x.2) = true := by rw [smallL_map]; exact hs
 exact exS_nx (x_asw (evs_2 (v_mcall (v_var s.n) (rc_lst l14) (evs_1 (v_var hf)) (ix_str l14 hs' i1)) (v_mcall (v_lk rfl hr) (rc_lst s.l19) (evs_1 (v_mcall (v_var s.n) (rc_lst l14) (evs_1 (v_var he)) (ix_str l14 hs' i2))) (ix_int s.l19 hs2 i3))) rfl)
theorem ask_f (hs : smallL rows = true) (hf : getCell H 3 = some (.str f)) (hk : nth rows k = some x) (nf : noDot f = true) (sf : f.length < 1000) (sx : x.2.length < 1000) :
  (lvlO (n+3)).ev Zt6 [(129, .int k)] [(121, 5), (134, 3)] b H = some (.bool (pre f x.2), H) :=
 v_gcall (evs_2 (v_bin (v_var hf) rfl (b_adds (small_1k (by omega)) rfl)) (v_idx (v_var s.n) rfl (idx_nat s.l14 (by rw [smallL_map]; exact hs) (nth_name hk)))) rfl (cl0 (ell_front nf sf sx))
theorem key_19 (hs : smallL rows = true) (hf : getCell H 3 = some (.str f)) (hk : nth rows k = some x) (nf : noDot f = true) (sf : f.length < 1000) (sx : x.2.length < 1000) :
  (lvlO (n+5)).vc (.cloX [(129, ⟨289,74,289,78⟩)] Zt12 [(129, .loc), (134, .fre), (121, .fre), (7, .glb)] [] [(121, 5), (134, 3)]) [.int k] b H = some (.bool (!pre f x.2), H) :=
 show (lvlO (n+4)).ev Zt12 [(129, .int k)] [(121, 5), (134, 3)] b H = _ from v_un (ask_f s hs hf hk nf sf sx) rfl
theorem ask_e {p1 p2 p3 p4 p5 p6 p7 p8 : Pos} (hs : smallL rows = true) (hf : getCell H 2 = some (.str f)) (hk : nth rows k = some x) (nf : noDot f = true) (sf : f.length < 1000) (sx : x.2.length < 1000) :
  (lvlO (n+3)).ev (.gcall 0 7 [.bin (.cst (.str "...") (.str [46,46,46]) p1) .Add (.var 135 p2) p3, .idx (.var 121 p4) (.var 129 p5) p6] [] p7 p8) [(129, .int k)] [(121, 5), (135, 2)] b H = some (.bool (pre f.reverse x.2.reverse), H) :=
 v_gcall (evs_2 (v_bin rfl (v_var hf) (b_adds rfl (small_1k (by omega)))) (v_idx (v_var s.n) rfl (idx_nat s.l14 (by rw [smallL_map]; exact hs) (nth_name hk)))) rfl (cl0 (ell_back nf sf sx))
theorem key_20 (hs : smallL rows = true) (hf : getCell H 2 = some (.str f)) (hk : nth rows k = some x) (nf : noDot f = true) (sf : f.length < 1000) (sx : x.2.length < 1000) :
  (lvlO (n+5)).vc (.cloX [(129, ⟨290,54,290,58⟩)] Zt13 [(129, .loc), (135, .fre), (121, .fre), (7, .glb)] [] [(121, 5), (135, 2)]) [.int k] b H = some (.bool (pre f.reverse x.2.reverse), H) :=
 show (lvlO (n+4)).ev Zt13 [(129, .int k)] [(121, 5), (135, 2)] b H = _ from ask_e s hs hf hk nf sf sx
theorem key_21 (hs : smallL rows = true) (hf : getCell H 2 = some (.str f)) (hk : nth rows k = some x) (nf : noDot f = true) (sf : f.length < 1000) (sx : x.2.length < 1000) :
  (lvlO (n+5)).vc (.cloX [(129, ⟨291,60,291,64⟩)] Zt14 [(129, .loc), (135, .fre), (121, .fre), (7, .glb)] [] [(121, 5), (135, 2)]) [.int k] b H = some (.bool (!pre f.reverse x.2.reverse), H) :=
 show (lvlO (n+4)).ev Zt14 [(129, .int k)] [(121, 5), (135, 2)] b H = _ from v_un (ask_e s hs hf hk nf sf sx) rfl
omit s
theorem rng_nat (hz : z = 8 ∨ z = 16) : rangeL 0 z 1 = (List.range z).map fun (k : Nat) => (k : Int) := by
 rcases hz with rfl | rfl <;> rfl
theorem rng_b (hz : z = 8 ∨ z = 16) : Nat.blt (rangeN 0 z 1) 1000 = true ∧ z ≤ 16 := by
 rcases hz with rfl | rfl <;> exact ⟨rfl, by decide⟩
theorem rng_len (hz : z = 8 ∨ z = 16) : (rangeL 0 z 1).length = z := by rw [rng_nat hz, List.length_map, List.length_range]
theorem rng_at (hz : z = 8 ∨ z = 16) (hm : m < z) : nth ((rangeL 0 z 1).map AV.int) m = some (.int m) := by
 rw [rng_nat hz, List.map_map, nth_map, nth_get, List.getElem?_range hm]; rfl
theorem nth_mem {α : Type} {xs : List α} {v : α} (h : nth xs k = some v) : v ∈ xs := by
 rw [nth_get] at h; exact List.mem_of_getElem? h
theorem nth_ok {α : Type} {xs : List α} (h : k < xs.length) : ∃ x, nth xs k = some x := ⟨xs[k], by rw [nth_get]; exact List.getElem?_eq_getElem h⟩
include s
theorem e_19 (hzz : z = 8 ∨ z = 16) (hr : rows.length = z) (hz : lkp 83 lo = some (.int z)) (h1 : lkp 79 lo = some (.int k1)) (hk1 : k1 < 1000) (hf : getCell H 3 = some (.str f)) (nf : noDot f = true) (sf : f.length < 1000) (sx : ∀ x ∈ rows, x.2.length < 1000)
  (hb : bisL true (rows.map fun x => !pre f x.2) 100 k1 z = some r) :
  exS (lvlO (n+12)) [Zt48] lo ceL 0 H = some (.nx, setL 137 (.int r) lo, H ++ [.lst ((rangeL 0 z 1).map .int)]) := by
 obtain ⟨q1, q2⟩ := rng_b hzz
 have hl := rng_len hzz
 have sz : smallI (z : Int) = true := smallI_nat (by omega)
 have hcl := bisL_c (n := n+3) (b := 0) (xb := true) (ps := [(129, ⟨289,74,289,78⟩)]) (bd := Zt12) (kd := [(129, .loc), (134, .fre), (121, .fre), (7, .glb)]) (mo := []) (cs := [(121, 5), (134, 3)]) (getLst_last H ((rangeL 0 z 1).map .int)) (small_1k (by rw [List.length_map]; omega)) (fun m y hy => by
  rw [nth_map] at hy
  obtain ⟨x, e, rfl⟩ := Option.map_eq_some_iff.mp hy
  exact ⟨m, rng_at hzz (hr ▸ nth_lt e), key_19 (n := n) (s.app _) (small_1k (by omega)) (getCell_app hf) e nf sf (sx x (nth_mem e))⟩) (by omega) (by omega) hb
 exact exS_nx (x_asgn (v_gcall (evs_c (v_bcall (evs_1 (v_bcall (evs_1 (v_lk rfl hz)) (b_rng sz))) (b_list rfl sz q1)) (evs_c rfl (evs_2 (v_lk rfl h1) (v_lk rfl hz)))) rfl hcl) rfl)
noncomputable def preN (rows : List (List Int × List Nat)) (q : List Nat → Bool) (k : Nat) : Bool := (nth rows k).elim false fun x => q x.2
omit s in
theorem e_20 {ringN : List Nat} (s : Sfx c0 c1 c2 c3 rows (ringN.map fun (k : Nat) => (k : Int)) worths H) (hs : smallL rows = true) (hrl : ringN.length < 1000) (hr : ∀ k ∈ ringN, k < rows.length) (hrg : lkp 131 lo = some (.ref 19)) (h1 : lkp 136 lo = some (.int k3)) (hk3 : k3 < 1000) (hf : getCell H 2 = some (.str f)) (nf : noDot f = true) (sf : f.length < 1000) (sx : ∀ x ∈ rows, x.2.length < 1000)
  (hb : bisL true (ringN.map (preN rows fun x => pre f.reverse x.reverse)) 100 0 k3 = some r) :
  exS (lvlO (n+12)) [Zt49] lo ceL 0 H = some (.nx, setL 138 (.int r) lo, H) := by
 have hcl := bisL_c (n := n+3) (b := 0) (xb := true) (ps := [(129, ⟨290,54,290,58⟩)]) (bd := Zt13) (kd := [(129, .loc), (135, .fre), (121, .fre), (7, .glb)]) (mo := []) (cs := [(121, 5), (135, 2)]) s.l19 (small_1k (by rw [List.length_map, List.length_map]; omega)) (fun m y hy => by
  rw [nth_map] at hy
  obtain ⟨k, e, rfl⟩ := Option.map_eq_some_iff.mp hy
  obtain ⟨x, hx⟩ := nth_ok (hr k (nth_mem e))
  refine ⟨(k : Int), by rw [nth_map, nth_map, e]; rfl, ?_⟩
  unfold preN
  rw [hx]
  exact key_20 (n := n) s hs hf hx nf sf (sx x (nth_mem hx))) (by omega) (by omega) hb
 exact exS_nx (x_asgn (v_gcall (evs_c (v_lk rfl hrg) (evs_c rfl (evs_2 rfl (v_lk rfl h1)))) rfl hcl) rfl)
omit s in
theorem e_21 {ringN : List Nat} (s : Sfx c0 c1 c2 c3 rows (ringN.map fun (k : Nat) => (k : Int)) worths H) (hs : smallL rows = true) (hrl : ringN.length < 1000) (hr : ∀ k ∈ ringN, k < rows.length) (hrg : lkp 131 lo = some (.ref 19)) (hz : lkp 83 lo = some (.int z)) (hzl : z < 1000) (h1 : lkp 136 lo = some (.int k3)) (hk3 : k3 < 1000) (hf : getCell H 2 = some (.str f)) (nf : noDot f = true) (sf : f.length < 1000) (sx : ∀ x ∈ rows, x.2.length < 1000)
  (hb : bisR false (ringN.map (preN rows fun x => !pre f.reverse x.reverse)) 100 k3 z = some r) :
  exS (lvlO (n+12)) [Zt50] lo ceL 0 H = some (.nx, setL 139 (.int r) lo, H) := by
 have hcl := bisR_c (n := n+3) (b := 0) (xb := false) (ps := [(129, ⟨291,60,291,64⟩)]) (bd := Zt14) (kd := [(129, .loc), (135, .fre), (121, .fre), (7, .glb)]) (mo := []) (cs := [(121, 5), (135, 2)]) s.l19 (small_1k (by rw [List.length_map, List.length_map]; omega)) (fun m y hy => by
  rw [nth_map] at hy
  obtain ⟨k, e, rfl⟩ := Option.map_eq_some_iff.mp hy
  obtain ⟨x, hx⟩ := nth_ok (hr k (nth_mem e))
  refine ⟨(k : Int), by rw [nth_map, nth_map, e]; rfl, ?_⟩
  unfold preN
  rw [hx]
  exact key_21 (n := n) s hs hf hx nf sf (sx x (nth_mem hx))) (by omega) (by omega) hb
 exact exS_nx (x_asgn (v_gcall (evs_c (v_lk rfl hrg) (evs_c rfl (evs_2 (v_lk rfl h1) (v_lk rfl hz)))) rfl hcl) rfl)
omit s
noncomputable def filtF (p : Int → Bool) (v : AV) : Option AV := asI v fun i => cond (p i) (some (.int i)) none
theorem filt_ints (p : Int → Bool) (l : List Int) : (l.map AV.int).filterMap (filtF p) = (l.filter p).map AV.int := by
 induction l with
 | nil => rfl
 | cons a r ih =>
  rw [List.map_cons, List.filterMap_cons, List.filter_cons, show filtF p (.int a) = cond (p a) (some (.int a)) none from rfl]
  cases p a with
  | true => exact congrArg (AV.int a :: ·) ih
  | false => exact ih
theorem eqI_self (a : Int) : eqI a a = true := (W.Z.eqB_iff a a).mpr rfl
theorem eqs_self (l : List Int) : eqs eq0 (l.map AV.int) (l.map AV.int) = some true := by
 induction l with
 | nil => rfl
 | cons a r ih =>
  show ob1 (eqs eq0 (r.map AV.int) (r.map AV.int)) (fun b => some (eqI a a && b)) = _
  rw [ih, eqI_self]; rfl
theorem eqM_same {i j : Nat} {l : List Int} (hi : getLst H i = some (l.map .int)) (hj : getLst H j = some (l.map .int)) (hs : smallL l = true) : eqM (.ref i) (.ref j) H = some true := by
 show alt (ob1 (getLst H i) fun xs => ob1 (getLst H j) fun ys => gd (smallL xs && smallL ys) <| cond (Nat.beq xs.length ys.length) (eqs eq0 xs ys) (some false)) _ = _
 rw [hi]; show alt (ob1 (getLst H j) _) _ = _
 rw [hj]; show alt (gd (smallL (l.map AV.int) && smallL (l.map AV.int)) (cond (Nat.beq (l.map AV.int).length (l.map AV.int).length) _ _)) _ = _
 rw [smallL_map, hs, Nat.beq_refl]; show alt (eqs eq0 (l.map AV.int) (l.map AV.int)) _ = _
 rw [eqs_self]; rfl
noncomputable def preI (rows : List (List Int × List Nat)) (q : List Nat → Bool) (i : Int) : Bool := preN rows q i.toNat
theorem getLst_at2 (xs ys : List AV) : getLst (H ++ [AO.lst xs] ++ [AO.lst ys]) (H ++ [AO.lst xs]).length = some ys := getLst_last _ ys
theorem rangeL_len (a c : Int) : (rangeL a c 1).length = rangeN a c 1 := by
 unfold rangeL; rw [List.length_map, List.length_range]
theorem src_r0 {a : Int} (h : smallI a = true) : srcOf (.rng 0 a 1) H = some (.rng 0 a 1) := by
 show gd (smallI a && true && true) _ = _
 rw [h]; rfl
theorem comp_pick {ce : Ce} {elt t : X} {tp : Pos} {it : It} {kd : List (Nat × K3)} {q : List Nat → Bool} (s : Sfx c0 c1 c2 c3 rows ring worths H) (hzz : z = 8 ∨ z = 16) (hrl : rows.length = z) (hit : itM (fun x K => (lvlO (n+10)).ev x lo ceL 0 K) it H = some (.rng 0 z 1, H)) (efr : freeC kd ceL = ce) (h129 : lkp 129 ce = none)
  (he : ∀ m lo' K, (lvlO (n+10)).ev elt (setL 129 (.int (m : Nat)) lo') ce 0 K = some (.int m, K))
  (ht : ∀ m lo' zs x, nth rows m = some x → (lvlO (n+10)).tv t (setL 129 (.int m) lo') ce 0 (H ++ [.lst zs]) = some (q x.2, H ++ [.lst zs])) :
  compM (lvlO (n+10)) elt [.mk (.name 129 tp) it [t]] kd lo ceL 0 H = some (.ref H.length, H ++ [.lst (((rangeL 0 z 1).filter (preI rows q)).map .int)]) := by
 rw [← filt_ints]
 refine comp1 (L := lvlO (n+10)) ((rangeL 0 z 1).map .int) (filtF (preI rows q)) hit (Nat.ble_eq_true_of_le (Nat.zero_le _)) (fun zs k => src_rng) (by rw [List.length_map, rng_len hzz]; exact Nat.lt_of_le_of_lt (rng_b hzz).2 (by decide)) fun x hx lo' zs => ?_
 obtain ⟨i, hi, rfl⟩ := List.mem_map.mp hx
 rw [rng_nat hzz] at hi
 obtain ⟨m, hm, rfl⟩ := List.mem_map.mp hi
 obtain ⟨x, hx⟩ := nth_ok (xs := rows) (hrl ▸ List.mem_range.mp hm)
 have ht := ht m lo' zs x hx
 have hp : filtF (preI rows q) (.int (m : Int)) = cond (q x.2) (some (.int m)) none := by
  show cond (preN rows q (Int.toNat m)) _ _ = _
  rw [Int.toNat_natCast, show preN rows q m = q x.2 by unfold preN; rw [hx]; rfl]
 refine ⟨setL 129 (.int (m : Int)) lo', ?_, ?_⟩
 ·show storeM 129 _ _ _ _ _ = _
  unfold storeM
  rw [efr, h129]
 ·rw [efr, hp]
  cases hq : q x.2 with
  | true => rw [hq] at ht; exact ⟨tests_one ht, he m lo' _⟩
  | false => rw [hq] at ht; exact tests_one ht
theorem e_22 (s : Sfx c0 c1 c2 c3 rows ring worths H) (hzz : z = 8 ∨ z = 16) (hrl : rows.length = z) (hz : lkp 83 lo = some (.int z)) (h1 : lkp 79 lo = some (.int k1)) (h2 : lkp 137 lo = some (.int r)) (hk1 : k1 < 1000) (hr : r < 1000) (hf : getCell H 3 = some (.str f))
  (hq : (rangeL 0 z 1).filter (preI rows fun x => pre f x) = rangeL k1 r 1) :
  exS (lvlO (n+12)) [Zt51] lo ceL 0 H = some (.nx, lo, H ++ [.lst ((rangeL k1 r 1).map .int)] ++ [.lst ((rangeL k1 r 1).map .int)]) := by
 obtain ⟨q1, q2⟩ := rng_b hzz
 have hs : smallL rows = true := small_1k (by omega)
 have hc := comp_pick (n := n) (lo := lo) (elt := (.var 129 ⟨292,8,292,12⟩)) (t := Zt7) (it := Zt15) (kd := [(77, .loc), (129, .loc), (134, .fre), (121, .fre)]) (tp := ⟨292,17,292,21⟩) (ce := [(121, 5), (134, 3)]) (q := fun x => pre f x) s hzz hrl (it_pl (v_bcall (evs_1 (v_lk rfl hz)) (b_rng (smallI_nat (by omega)))) (src_r0 (smallI_nat (by omega)))) rfl rfl (fun m lo' K => v_lk rfl lk_self) fun m lo' zs x hx => t_mc (v_mcall (v_idx (v_var (s.app _).n) (v_lk rfl lk_self) (idx_nat (s.app _).l14 (by rw [smallL_map]; exact hs) (nth_name hx))) rfl (evs_1 (v_var (getCell_app hf))) rfl) rfl
 rw [hq] at hc
 have hlen : (rangeL k1 r 1).length ≤ 16 := by
  rw [← hq]
  exact Nat.le_trans (List.length_filter_le _ _) (by rw [rng_len hzz]; exact q2)
 have hb : Nat.blt (rangeN k1 r 1) 1000 = true := by
  rw [← rangeL_len]; exact Nat.ble_eq_true_of_le (by omega)
 exact exS_nx (ex_if (t := false) (v_cmp hc (v_bcall (evs_1 (v_bcall (evs_2 (v_lk rfl h1) (v_lk rfl h2)) (b_rng2 (smallI_nat (by omega)) (smallI_nat (by omega))))) (b_list (smallI_nat (by omega)) (smallI_nat (by omega)) hb)) (c_ne (eqM_same (getLst_2 _ _ _) (getLst_last _ _) (small_1k (by omega))))) rfl)
end
section
variable {H H1 : St} {j : Nat} {ns : List Int} {s2 : List Nat} {xs : List AV} {cl : Nat → List AV → List (Nat × AV) → Nat → St → Option (AV × St)} {L : Lvl} {b : Nat} {lo : Lo} {ce : Ce} {p : Pos} {es : List X} {ss : List (List Nat)}
theorem sliceL_map {α β : Type} (f : α → β) (xs : List α) (lo hi st : Option Int) : sliceL (xs.map f) lo hi st = (sliceL xs lo hi st).map f := by
 unfold sliceL
 rw [List.length_map, List.map_filterMap]
 exact congrArg (fun g => List.filterMap g _) (funext fun i => nth_map f xs i)
theorem b_sorted (g : getLst H j = some (ns.map .int)) (h : ns.length < 64) : bfM .sorted [.ref j] H = newL H ((sortI ns).map .int) := by
 show ob1 (getLst H j) (fun xs => ob1 (intsOf xs) fun ns => gd (Nat.blt ns.length 64) <| newL H ((sortI ns).map .int)) = _
 rw [g]; show ob1 (intsOf (ns.map AV.int)) _ = _; rw [intsOf_map]; show gd (Nat.blt ns.length 64) _ = _; rw [show Nat.blt ns.length 64 = true from Nat.ble_eq_true_of_le h]; rfl
theorem b_listS (h : smallL s2 = true) : bfM .list [.str s2] H = newL H (s2.map fun c => .str [c]) := by
 show gd (smallL s2) _ = _
 rw [h]; rfl
theorem v_list (e : evs (fun x H => L.ev x lo ce b H) es H = some (xs, H1)) (h : smallL xs = true) : (up cl L).ev (.list es p) lo ce b H = newL H1 xs := by
 show ob2 (evs (fun x H => L.ev x lo ce b H) es H) _ = _
 rw [e]; show gd (smallL xs) _ = _; rw [h]; rfl
theorem fold_one (l : List Nat) : ∀ a, (l.map fun c => [c]).foldl (fun a (x : List Nat) => a + x.length + [46, 46, 46].length) a = a + 4 * l.length := by
 induction l with
 | nil => intro a; rfl
 | cons x r ih =>
  intro a
  rw [List.map_cons, List.foldl_cons, ih]
  show a + 1 + 3 + 4 * r.length = a + 4 * (r.length + 1)
  omega
noncomputable def want2 (n1 : List Nat) : List Nat := joinL [46, 46, 46] (n1.map fun c => [c])
theorem m_join (g : getLst H j = some (s2.map fun c => .str [c])) (h : s2.length < 1000) : mfM .join (.str [46, 46, 46]) [.ref j] b H = some (.str (want2 s2), H) := by
 show ob1 (getLst H j) (fun xs => ob1 (strsOf xs) fun ss => gd (Nat.ble (ss.foldl (fun a x => a + x.length + [46, 46, 46].length) 0) 1000000) <| some (AV.str (joinL [46, 46, 46] ss), H)) = _
 rw [g]; show ob1 (strsOf (s2.map fun c => AV.str [c])) _ = _
 rw [show (s2.map fun c => AV.str [c]) = (s2.map fun c => [c]).map .str from (List.map_map (l := s2)).symm, strsOf_map]
 show gd (Nat.ble ((s2.map fun c => [c]).foldl (fun a x => a + x.length + [46, 46, 46].length) 0) 1000000) _ = _
 rw [fold_one, Nat.ble_eq_true_of_le (by omega)]; rfl
end
section
variable {c0 c1 c2 c3 : Int} {rows : List (List Int × List Nat)} {ring worths : List Int} {H : St} {n : Nat} {lo : Lo} {r2 r3 z ia o1 o2 : Nat} {f e t : List Nat} {arc : List Int} {x x1 x2 : List Int × List Nat} (s : Sfx c0 c1 c2 c3 rows ring worths H)
include s
theorem e_23 (hs : smallL ring = true) (hr : lkp 131 lo = some (.ref 19)) (h2 : lkp 138 lo = some (.int r2)) (h3 : lkp 139 lo = some (.int r3)) (b2 : r2 < 1000) (b3 : r3 < 1000) :
  exS (lvlO (n+12)) [Zt52] lo ceL 0 H = some (.nx, setL 140 (.ref H.length) lo, H ++ [.lst ((sliceL ring (some (r2 : Int)) (some (r3 : Int)) none).map .int)]) := by
 rw [← sliceL_map]
 exact exS_nx (x_asgn (v_slc (v_lk rfl hr) (evo_so (v_lk rfl h2) (smallI_nat (by omega))) (evo_so (v_lk rfl h3) (smallI_nat (by omega))) rfl (sl_l rfl s.l19 (by rw [smallL_map]; exact hs))) rfl)
theorem e_24 (hzz : z = 8 ∨ z = 16) (hrl : rows.length = z) (hz : lkp 83 lo = some (.int z)) (ha : lkp 140 lo = some (.ref ia)) (hal : getLst H ia = some (arc.map .int)) (hal2 : arc.length < 64) (hf : getCell H 2 = some (.str f))
  (hq : (rangeL 0 z 1).filter (preI rows fun x => pre f.reverse x.reverse) = sortI arc) :
  exS (lvlO (n+12)) [Zt53] lo ceL 0 H = some (.nx, lo, H ++ [.lst ((sortI arc).map .int)] ++ [.lst ((sortI arc).map .int)]) := by
 obtain ⟨q1, q2⟩ := rng_b hzz
 have hs : smallL rows = true := small_1k (by omega)
 have hc := comp_pick (n := n) (lo := lo) (elt := (.var 129 ⟨295,8,295,12⟩)) (t := Zt8) (it := Zt16) (kd := [(77, .loc), (129, .loc), (135, .fre), (121, .fre)]) (tp := ⟨295,17,295,21⟩) (ce := [(121, 5), (135, 2)]) (q := fun x => pre f.reverse x.reverse) s hzz hrl (it_pl (v_bcall (evs_1 (v_lk rfl hz)) (b_rng (smallI_nat (by omega)))) (src_r0 (smallI_nat (by omega)))) rfl rfl (fun m lo' K => v_lk rfl lk_self) fun m lo' zs x hx => t_mc (v_mcall (v_idx (v_var (s.app _).n) (v_lk rfl lk_self) (idx_nat (s.app _).l14 (by rw [smallL_map]; exact hs) (nth_name hx))) rfl (evs_1 (v_var (getCell_app hf))) rfl) rfl
 rw [hq] at hc
 have hlen : (sortI arc).length ≤ 16 := by
  rw [← hq]
  exact Nat.le_trans (List.length_filter_le _ _) (by rw [rng_len hzz]; exact q2)
 exact exS_nx (ex_if (t := false) (v_cmp hc (v_bcall (evs_1 (v_lk rfl ha)) (b_sorted (getLst_app hal) hal2)) (c_ne (eqM_same (getLst_2 _ _ _) (getLst_last _ _) (small_1k (by omega))))) rfl)
theorem e_25 (ho : lkp 133 lo = some (.int o2)) (hs : smallL rows = true) (hn : nth rows o2 = some x) (hsl : smallL (sliceS x.2 none none (some (-1))) = true) :
  exS (lvlO (n+12)) [Zt54] lo ceL 0 H = some (.nx, setL 141 (.str (sliceS x.2 none none (some (-1)))) lo, H) :=
 exS_nx (x_asgn (v_slc (v_idx (v_var s.n) (v_lk rfl ho) (idx_nat s.l14 (by rw [smallL_map]; exact hs) (nth_name hn))) rfl rfl rfl (sl_s rfl hsl)) rfl)
theorem e_26 (h1 : lkp 132 lo = some (.int o1)) (h2 : lkp 133 lo = some (.int o2)) (ht : lkp 141 lo = some (.str t)) (hs : smallL rows = true) (n1 : nth rows o1 = some x1) (n2 : nth rows o2 = some x2) (hf : getCell H 3 = some (.str f)) (he : getCell H 2 = some (.str e))
  (l1 : x1.2.length < 1000) (l2 : x2.2.length < 1000) (lf : f.length < 1000) (le : e.length < 1000) (lt : t.length < 1000) (j1 : smallL (want2 x1.2) = true) (j2 : smallL (want2 x2.2) = true) (j3 : smallL (want2 t) = true) (j4 : smallL ([46, 46, 46] ++ want2 t) = true) :
  exS (lvlO (n+12)) [Zt55] lo ceL 0 H = some (.nx, setL 142 (.ref (H.length + 3)) lo, H ++ [.lst (x1.2.map fun c => .str [c])] ++ [.lst (x2.2.map fun c => .str [c])] ++ [.lst (t.map fun c => .str [c])] ++
   [.lst [.str ((f ++ [46, 46, 46]) ++ e), .str x1.2, .str (want2 x1.2), .str ([46, 46, 46] ++ want2 x2.2), .str (([46, 46, 46] ++ want2 t) ++ [46, 46, 46])]]) := by
 have hs' : smallL (rows.map fun x => AV.str x.2) = true := by rw [smallL_map]; exact hs
 have hx1 : ∀ {m p q r}, (lvlO (m+2)).ev (.idx (.var 121 p) (.var 132 q) r) lo ceL 0 H = some (.str x1.2, H) := v_idx (v_var s.n) (v_lk rfl h1) (idx_nat s.l14 hs' (nth_name n1))
 have hx2 : ∀ {m p q r}, (lvlO (m+2)).ev (.idx (.var 121 p) (.var 133 q) r) lo ceL 0 (H ++ [.lst (x1.2.map fun c => .str [c])]) = some (.str x2.2, H ++ [.lst (x1.2.map fun c => .str [c])]) := v_idx (v_var (s.app _).n) (v_lk rfl h2) (idx_nat (s.app _).l14 hs' (nth_name n2))
 have e3 : (H ++ [AO.lst (x1.2.map fun c => .str [c])] ++ [AO.lst (x2.2.map fun c => .str [c])] ++ [AO.lst (t.map fun c => .str [c])]).length = H.length + 3 := by rw [List.length_append, List.length_append, List.length_append]; rfl
 rw [← e3]
 exact exS_nx (x_asgn (v_list (evs_c (v_bin (v_bin (v_var hf) rfl (b_adds (small_1k (by omega)) rfl)) (v_var he) (b_adds (small_1k (by rw [List.length_append]; show _ + 3 < _; omega)) (small_1k (by omega))))
  (evs_c hx1 (evs_c (v_mcall rfl rfl (evs_1 (v_bcall (evs_1 hx1) (b_listS (small_1k (by omega))))) (m_join (getLst_last _ _) l1))
  (evs_c (v_bin rfl (v_mcall rfl rfl (evs_1 (v_bcall (evs_1 hx2) (b_listS (small_1k (by omega))))) (m_join (getLst_last _ _) l2)) (b_adds rfl j2))
   (evs_1 (v_bin (v_bin rfl (v_mcall rfl rfl (evs_1 (v_bcall (evs_1 (v_lk rfl ht)) (b_listS (small_1k (by omega))))) (m_join (getLst_last _ _) lt)) (b_adds rfl j3)) rfl (b_adds j4 rfl))))))) rfl) rfl)
end
section
variable {f : X → St → Option (AV × St)} {x y z : X} {p q r : Bool} {H H1 H2 H3 : St} {cl : Nat → List AV → List (Nat × AV) → Nat → St → Option (AV × St)} {L : Lvl} {b j : Nat} {lo : Lo} {ce : Ce} {po : Pos} {u v w : AV} {op op2 : CmpOp} {a : Int} {ns : List Int} {s : List Nat} {c : Nat}
theorem bop_f (h1 : f x H = some (.bool p, H)) {o : Option (AV × St)} {st : Bool} {xs : List X} (h2 : bopV f st (y :: xs) H = o) : bopV f st (x :: y :: xs) H = cond (p == st) (some (.bool p, H)) o := by
 show ob2 (f x H) _ = _
 rw [h1, ← h2]; rfl
theorem and2 (h1 : f x H = some (.bool p, H)) (h2 : p = true → f y H = some (.bool q, H)) : bopV f false [x, y] H = some (.bool (p && q), H) := by
 rw [bop_f h1 rfl]
 cases p with
 | false => rfl
 | true => exact h2 rfl
theorem and3 (h1 : f x H = some (.bool p, H)) (h2 : f y H = some (.bool q, H)) (h3 : f z H = some (.bool r, H)) : bopV f false [x, y, z] H = some (.bool (p && (q && r)), H) := by
 rw [bop_f h1 (and2 h2 fun _ => h3)]
 cases p <;> rfl
theorem or2 (h1 : f x H = some (.bool p, H)) (h2 : f y H = some (.bool q, H)) : bopV f true [x, y] H = some (.bool (p || q), H) := by
 rw [bop_f (xs := []) h1 h2]
 cases p <;> rfl
theorem v_cmp2 (e1 : L.ev x lo ce b H = some (u, H1)) (e2 : L.ev y lo ce b H1 = some (v, H2)) (e3 : cmpM op u v H2 = some p) (e4 : L.ev z lo ce b H2 = some (w, H2)) (e5 : cmpM op2 v w H2 = some q) : (up cl L).ev (.cmp2 x op y op2 z po) lo ce b H = some (.bool (p && q), H2) := by
 show ob2 (L.ev x lo ce b H) (fun u H => ob2 (L.ev y lo ce b H) fun v H => ob1 (cmpM op u v H) fun t =>
   cond t (ob2 (L.ev z lo ce b H) fun w H => ob1 (cmpM op2 v w H) fun t => some (AV.bool t, H)) (some (AV.bool false, H))) = _
 rw [e1]; show ob2 (L.ev y lo ce b H1) _ = _
 rw [e2]; show ob1 (cmpM op u v H2) _ = _
 rw [e3]; show cond p (ob2 (L.ev z lo ce b H2) fun w H => ob1 (cmpM op2 v w H) fun t => some (AV.bool t, H)) _ = _
 rw [e4]; show cond p (ob1 (cmpM op2 v w H2) _) _ = _
 rw [e5]; cases p <;> rfl
theorem c_in (g : getLst H j = some (ns.map .int)) (h : smallL ns = true) : cmpM .In (.int a) (.ref j) H = some (ns.any (eqI a)) := by
 show ob1 (getLst H j) (fun xs => ob1 (intsOf xs) fun ns => gd (smallL ns) <| some (ns.any (eqI a))) = _
 rw [g]; show ob1 (intsOf (ns.map AV.int)) _ = _; rw [intsOf_map]; show gd (smallL ns) _ = _; rw [h]; rfl
theorem ix_s (h : smallL s = true) (h2 : smallI a = true) (h3 : ixOf a s.length = some j) (h4 : nth s j = some c) : idxM (.str s) (.int a) H = some (.str [c]) := by
 show gd (smallI a) (gd (smallL s) (ob1 (ixOf a s.length) fun j => ob1 (nth s j) fun c => some (AV.str [c]))) = _
 rw [h2, h, h3]; show ob1 (nth s j) _ = _; rw [h4]; rfl
end
noncomputable def endsM (n1 name : List Nat) : Bool := (nth n1 0).elim false fun a => (nth n1 (n1.length - 1)).elim false fun c => eqL (sliceS name none (some 1) none ++ sliceS name (some (-1)) none none) ([a] ++ [c])
noncomputable def heldM (k o1 : Nat) (n1 name : List Nat) : Bool := eqI k o1 || (ltI 1 n1.length && endsM n1 name)
noncomputable def bothM (k k1 r : Nat) (arc : List Int) (f e name : List Nat) : Bool := (leI k1 k && ltI k r) && (arc.any (eqI k) && leI (f.length + e.length) name.length)
section
variable {c0 c1 c2 c3 : Int} {rows : List (List Int × List Nat)} {ring worths : List Int} {H : St} {n : Nat} {lo : Lo} {k k1 r ia o1 o2 iw id : Nat} {arc : List Int} {f e name t : List Nat} {x x1 x2 xk : List Int × List Nat} {both held great : Bool}
theorem b_144 (hk : lkp 129 lo = some (.int k)) (h1 : lkp 79 lo = some (.int k1)) (hr : lkp 137 lo = some (.int r)) (ha : lkp 140 lo = some (.ref ia)) (hal : getLst H ia = some (arc.map .int)) (hf : getCell H 3 = some (.str f)) (he : getCell H 2 = some (.str e)) (hn : getCell H 1 = some (.str name))
  (sa : smallL arc = true) (sf : smallL f = true) (se : smallL e = true) (sn : smallL name = true) :
  exS (lvlO (n+11)) [Zt29] lo ceL 0 H = some (.nx, setL 144 (.bool (bothM k k1 r arc f e name)) lo, H) :=
 exS_nx (x_asgn (and3 (f := fun x H => (lvlO (n+10)).ev x lo ceL 0 H) (v_cmp2 (v_lk rfl h1) (v_lk rfl hk) rfl (v_lk rfl hr) rfl) (v_cmpv (v_lk rfl hk) (v_lk rfl ha) (c_in hal sa))
  (v_cmpv (v_bcall (evs_1 (v_var hn)) (b_lenS sn)) (v_bin (v_bcall (evs_1 (v_var hf)) (b_lenS sf)) (v_bcall (evs_1 (v_var he)) (b_lenS se)) rfl) rfl)) rfl)
theorem nth_rowV (hn : nth rows o1 = some x) : nth (rows.map rowV) o1 = some (rowV x) := by
 rw [nth_map, hn]; rfl
theorem b_145 (s : Sfx c0 c1 c2 c3 rows ring worths H) (hs : smallL rows = true) (hk : lkp 129 lo = some (.int k)) (h1 : lkp 132 lo = some (.int o1)) (hx : nth rows o1 = some x1) (hn : getCell H 1 = some (.str name))
  (sx : x1.2.length < 1000) (q1 : smallL (sliceS name none (some 1) none) = true) (q2 : smallL (sliceS name (some (-1)) none none) = true) :
  exS (lvlO (n+11)) [Zt30] lo ceL 0 H = some (.nx, setL 145 (.bool (heldM k o1 x1.2 name)) lo, H) := by
 have hr : ∀ {m p q r}, (lvlO (m+2)).ev (.idx (.var 121 p) (.var 132 q) r) lo ceL 0 H = some (.str x1.2, H) := v_idx (v_var s.n) (v_lk rfl h1) (idx_nat s.l14 (by rw [smallL_map]; exact hs) (nth_name hx))
 have sx1 : smallL x1.2 = true := small_1k (by omega)
 refine exS_nx (x_asgn (or2 (f := fun x H => (lvlO (n+10)).ev x lo ceL 0 H) (v_cmpv (v_lk rfl hk) (v_lk rfl h1) rfl) (and2 (f := fun x H => (lvlO (n+9)).ev x lo ceL 0 H) (v_cmpv (v_bcall (evs_1 hr) (b_lenS sx1)) rfl rfl) fun hl => ?_)) rfl)
 have hl := (W.Z.ltB_iff _ _).mp hl
 obtain ⟨a, ha⟩ := nth_ok (xs := x1.2) (k := 0) (by omega)
 obtain ⟨c, hc⟩ := nth_ok (xs := x1.2) (k := x1.2.length - 1) (by omega)
 have he : endsM x1.2 name = eqL (sliceS name none (some 1) none ++ sliceS name (some (-1)) none none) ([a] ++ [c]) := by unfold endsM; rw [ha, hc]; rfl
 rw [he]
 have i1 : ixOf 0 x1.2.length = some 0 := ixOf_nat (k := 0) (by omega)
 have i2 : ixOf (-1) x1.2.length = some (x1.2.length - 1) := by
  rw [show x1.2.length = (x1.2.length - 1) + 1 by omega]; exact ixOf_neg1 _
 exact v_cmpv (v_bin (v_slc (v_var hn) rfl rfl rfl (sl_s rfl q1)) (v_slc (v_var hn) rfl rfl rfl (sl_s rfl q2)) (b_adds q1 q2)) (v_bin (v_idx hr rfl (ix_s sx1 rfl i1 ha)) (v_idx hr rfl (ix_s sx1 rfl i2 hc)) rfl) rfl
theorem b_146 (s : Sfx c0 c1 c2 c3 rows ring worths H) (hs : smallL rows = true) (hk : lkp 129 lo = some (.int k)) (h2 : lkp 133 lo = some (.int o2)) (hxk : nth rows k = some xk) (hx : nth rows o2 = some x2) (g1 : xk.1.length < 100) (g2 : x2.1.length < 100) :
  exS (lvlO (n+11)) [Zt31] lo ceL 0 H = some (.nx, setL 146 (.bool (greatM xk.1 x2.1)) lo, H) := by
 have hs : smallL (rows.map rowV) = true := by rw [smallL_map]; exact hs
 exact exS_nx (x_asgn (v_gcall (evs_2 (v_idx (v_idx (v_var s.r) (v_lk rfl hk) (idx_nat s.l11 hs (nth_rowV hxk))) rfl rfl) (v_idx (v_idx (v_var s.r) (v_lk rfl h2) (idx_nat s.l11 hs (nth_rowV hx))) rfl rfl)) rfl (great_c (n := n+2) (small_1k (by omega)) (small_1k (by omega)) g1)) rfl)
theorem b_147 (s : Sfx c0 c1 c2 c3 rows ring worths H) (hs : smallL rows = true) (hk : lkp 129 lo = some (.int k)) (h1 : lkp 132 lo = some (.int o1)) (h2 : lkp 133 lo = some (.int o2)) (ht : lkp 141 lo = some (.str t))
  (a1 : lkp 144 lo = some (.bool both)) (a2 : lkp 145 lo = some (.bool held)) (a3 : lkp 146 lo = some (.bool great)) (hxk : nth rows k = some xk) (hx1 : nth rows o1 = some x1) (hx2 : nth rows o2 = some x2) (hn : getCell H 1 = some (.str name))
  (g0 : xk.1.length < 100) (g1 : x1.1.length < 100) (q1 : smallL (sliceS t none (some 1) none) = true) :
  exS (lvlO (n+11)) [Zt32] lo ceL 0 H = some (.nx, setL 147 (.ref H.length) lo, H ++ [.lst [.bool both, .bool (eqI k o1), .bool (held && greatM xk.1 x1.1), .bool (great && pre (sliceS t none (some 1) none).reverse name.reverse), .bool (great && eqL t x2.2)]]) := by
 have hs1 : smallL (rows.map rowV) = true := by rw [smallL_map]; exact hs
 exact exS_nx (x_asgn (v_list (evs_c (v_lk rfl a1) (evs_c (v_cmpv (v_lk rfl hk) (v_lk rfl h1) rfl)
  (evs_c (and2 (f := fun x H => (lvlO (n+9)).ev x lo ceL 0 H) (v_lk rfl a2) fun _ => v_gcall (evs_2 (v_idx (v_idx (v_var s.r) (v_lk rfl hk) (idx_nat s.l11 hs1 (nth_rowV hxk))) rfl rfl) (v_idx (v_idx (v_var s.r) (v_lk rfl h1) (idx_nat s.l11 hs1 (nth_rowV hx1))) rfl rfl)) rfl (great_c (n := n) (small_1k (by omega)) (small_1k (by omega)) g0))
  (evs_2 (and2 (f := fun x H => (lvlO (n+9)).ev x lo ceL 0 H) (v_lk rfl a3) fun _ => v_mcall (v_var hn) rfl (evs_1 (v_slc (v_lk rfl ht) rfl rfl rfl (sl_s rfl q1))) rfl)
   (and2 (f := fun x H => (lvlO (n+9)).ev x lo ceL 0 H) (v_lk rfl a3) fun _ => v_cmpv (v_lk rfl ht) (v_idx (v_var s.n) (v_lk rfl h2) (idx_nat s.l14 (by rw [smallL_map]; exact hs) (nth_name hx2))) rfl))))) rfl) rfl)
theorem src_en {s : Src} {xs : List AV} {H : St} {k : Nat} (h : srcAt H s k = some (nth xs k)) : srcAt H (.en s) k = some (ob1 (nth xs k) fun v => some (.tup [.int k, v])) := by
 show ob1 (srcAt H s k) _ = _
 rw [h]; rfl
theorem it_zp {f : X → St → Option (AV × St)} {x y : X} {np p : Pos} {i j : Nat} {xs ys : List AV} (e1 : f x H = some (.ref i, H)) (e2 : f y H = some (.ref j, H)) (g1 : getLst H i = some xs) (g2 : getLst H j = some ys) : itM f (.zp x y np p) H = some (.zp (.lst i) (.lst j), H) := by
 show ob2 (f x H) (fun v H => ob2 (f y H) fun w H => ob1 (srcO v H) fun s => ob1 (srcO w H) fun t => some (Src.zp s t, H)) = _
 rw [e1]; show ob2 (f y H) _ = _; rw [e2]; show ob1 (alt (ob1 (getLst H i) _) _) _ = _; rw [g1]; show ob1 (alt (ob1 (getLst H j) _) _) _ = _; rw [g2]; rfl
theorem it_en {f : X → St → Option (AV × St)} {x : X} {np p : Pos} {i : Nat} {xs : List AV} (e1 : f x H = some (.ref i, H)) (g1 : getLst H i = some xs) : itM f (.en x np p) H = some (.en (.lst i), H) := by
 show ob2 (f x H) _ = _
 rw [e1]; show ob1 (alt (ob1 (getLst H i) _) _) _ = _; rw [g1]; rfl
noncomputable def noF (v : AV) : Option AV := none
noncomputable def Dues (name : List Nat) : List (List Nat) → List Bool → Prop
 | [], [] => True
 | w :: ws, d :: ds => ellO w name = some d ∧ Dues name ws ds
 | _, _ => False
theorem dues_in (ws : List (List Nat)) : ∀ {ds : List Bool}, Dues name ws ds → ∀ x ∈ List.zipWith pairV (ws.map .str) (ds.map .bool), ∃ w d, x = .tup [.str w, .bool d] ∧ ellO w name = some d := by
 induction ws with
 | nil => exact fun _ x hx => nomatch hx
 | cons w ws ih =>
  intro ds h x hx
  cases ds with
  | nil => exact h.elim
  | cons d ds =>
   cases hx with
   | head => exact ⟨w, d, rfl, h.1⟩
   | tail _ hx => exact ih h.2 x hx
theorem none_noF (l : List AV) : l.filterMap noF = [] := by
 induction l with
 | nil => rfl
 | cons a r ih => exact ih
theorem b_if {ws : List (List Nat)} {ds : List Bool} (hw : lkp 142 lo = some (.ref iw)) (hd : lkp 147 lo = some (.ref id)) (hwl : getLst H iw = some (ws.map .str)) (hdl : getLst H id = some (ds.map .bool)) (hl : ws.length < 100) (hl2 : ds.length < 100) (hn : getCell H 1 = some (.str name)) (m : Dues name ws ds) :
  exS (lvlO (n+11)) [Zt33] lo ceL 0 H = some (.nx, lo, H ++ [.lst []] ++ [.lst []]) := by
 have hc := comp1 (L := lvlO (n+9)) (elt := (.var 0 ⟨304,12,304,16⟩)) (t := Zt2) (it := Zt3) (ifs := Zt4) (kd := [(77, .loc), (0, .loc), (148, .loc), (7, .glb), (143, .fre)]) (lo := lo) (ce := ceL) (b := 0) (List.zipWith pairV (ws.map .str) (ds.map .bool)) noF (it_zp (v_lk rfl hw) (v_lk rfl hd) hwl hdl)
  (Nat.ble_eq_true_of_le (Nat.zero_le _)) (fun zs k => src_zip (src_lst (getLst_app hwl) (by rw [smallL_map]; exact small_1k (by omega))) (src_lst (getLst_app hdl) (by rw [smallL_map]; exact small_1k (by omega)))) (by rw [List.length_zipWith, List.length_map]; exact Nat.lt_of_le_of_lt (Nat.min_le_left _ _) hl) fun x hx lo' zs => by
   obtain ⟨w, d, rfl, hm⟩ := dues_in ws m x hx
   have h1 : (lvlO (n+9)).tv Zt1 (setL 148 (.bool d) (setL 0 (.str w) lo')) [(143, 1)] 0 (H ++ [.lst zs]) = some (d != d, H ++ [.lst zs]) := v_cmp (v_gcall (evs_2 (v_lk rfl (lk_ne rfl lk_self)) (v_var (getCell_app hn))) rfl (cl0 hm)) (v_lk rfl lk_self) rfl
   rw [bne_self_eq_false] at h1
   exact ⟨setL 148 (.bool d) (setL 0 (.str w) lo'), rfl, tests_one h1⟩
 rw [none_noF] at hc
 exact exS_nx (ex_if (t := false) (v_cmp hc rfl (c_ne (eqM_same (l := []) (getLst_2 _ _ _) (getLst_last _ _) rfl))) rfl)
end
noncomputable def Kno (t lo : Lo) : Prop := ∀ k v, lkp k t = some v → lkp k lo = some v
section
variable {t lo : Lo} {k : Nat} {v : AV}
theorem lkp_c (j : Nat) : lkp j ((k, v) :: t) = cond (Nat.beq k j) (some v) (lkp j t) := by
 show (match Nat.beq k j with | true => some v | false => lkp j t) = _
 cases Nat.beq k j <;> rfl
theorem Kno.set (h : Kno t lo) : Kno ((k, v) :: t) (setL k v lo) := fun j w e => by
 rw [lkp_c] at e
 rw [lkp_setL]
 cases q : Nat.beq k j with
 | true => rw [q] at e; exact e
 | false => rw [q] at e; exact h j w e
theorem Kno.drop (h : Kno ((k, v) :: t) lo) (n : lkp k t = none) : Kno t lo := fun j w e => h j w (by
 rw [lkp_c]
 cases q : Nat.beq k j with
 | true => rw [Nat.eq_of_beq_eq_true q, e] at n; exact nomatch n
 | false => exact e)
theorem setN_len {α : Type} (v : α) (l : List α) : ∀ i, (setN v l i).length = l.length := by
 induction l with
 | nil => exact fun _ => rfl
 | cons a r ih =>
  intro i
  cases i with
  | zero => rfl
  | succ i => exact congrArg Nat.succ (ih i)
end
theorem loop_inv {F : AV → RF × Lo × St → Option ((RF × Lo × St) × Bool)} {s : Src} {items : List AV} {Inv : Nat → Lo → St → Prop} {c : Nat} {lo : Lo} {H : St} (hs : ∀ i lo H, Inv i lo H → ∀ k, srcAt H s k = some (nth items k)) (hf : ∀ k x lo H, nth items k = some x → Inv k lo H → ∃ lo' H', F x (.nx, lo, H) = some ((.nx, lo', H'), true) ∧ Inv (k + 1) lo' H')
  (hc : items.length < c) (h0 : Inv 0 lo H) : ∃ lo' H', turns (·.2.2) F s c 0 (.nx, lo, H) = some (.nx, lo', H') ∧ Inv items.length lo' H' := by
 refine turns_go (items := items) (fun o => ∃ lo' H', o = some (RF.nx, lo', H') ∧ Inv items.length lo' H') (fun r a => ∃ k, a.1 = RF.nx ∧ r = items.drop k ∧ k ≤ items.length ∧ Inv k a.2.1 a.2.2) (fun r a k q => q.elim fun j q => hs j _ _ q.2.2.2 k) ?_ ?_ items [] c (.nx, lo, H) rfl (Nat.ble_eq_true_of_le hc) ⟨0, rfl, rfl, Nat.zero_le _, h0⟩
 ·rintro ⟨f, lo', K⟩ ⟨k, e, e1, e2, i⟩
  obtain rfl : f = RF.nx := e
  have := List.drop_eq_nil_iff.mp e1.symm
  exact ⟨lo', K, rfl, Nat.le_antisymm e2 this ▸ i⟩
 ·rintro x r ⟨f, lo', K⟩ ⟨k, e, e1, e2, i⟩
  obtain rfl : f = RF.nx := e
  have hx : nth items k = some x := by rw [nth_get, ← List.head?_drop, ← e1]; rfl
  obtain ⟨lo2, K2, q1, q2⟩ := hf k x lo' K hx i
  exact .inr ⟨_, q1, k + 1, rfl, by rw [← List.tail_drop, ← e1]; rfl, nth_lt hx, q2⟩
structure Draw where
 o1 : Nat
 o2 : Nat
 k1 : Nat
 r : Nat
 f : List Nat
 e : List Nat
 t : List Nat
 arc : List Int
 ia : Nat
 iw : Nat
 x1 : List Int × List Nat
 x2 : List Int × List Nat
noncomputable def Draw.wants (d : Draw) : List (List Nat) := [(d.f ++ [46, 46, 46]) ++ d.e, d.x1.2, want2 d.x1.2, [46, 46, 46] ++ want2 d.x2.2, ([46, 46, 46] ++ want2 d.t) ++ [46, 46, 46]]
noncomputable def tblD (d : Draw) : Lo := [(132, .int d.o1), (133, .int d.o2), (79, .int d.k1), (137, .int d.r), (140, .ref d.ia), (141, .str d.t), (142, .ref d.iw)]
structure DH (c0 c1 c2 c3 : Int) (rows : List (List Int × List Nat)) (ring worths : List Int) (d : Draw) (H : St) : Prop where
 s : Sfx c0 c1 c2 c3 rows ring worths H
 f : getCell H 3 = some (.str d.f)
 e : getCell H 2 = some (.str d.e)
 a : getLst H d.ia = some (d.arc.map .int)
 w : getLst H d.iw = some (d.wants.map .str)
 i1 : Nat.beq 1 d.ia = false
 i2 : Nat.beq 1 d.iw = false
noncomputable def duesD (d : Draw) (k : Nat) (xk : List Int × List Nat) : List Bool := [bothM k d.k1 d.r d.arc d.f d.e xk.2, eqI k d.o1, heldM k d.o1 d.x1.2 xk.2 && greatM xk.1 d.x1.1, greatM xk.1 d.x2.1 && pre (sliceS d.t none (some 1) none).reverse xk.2.reverse, greatM xk.1 d.x2.1 && eqL d.t d.x2.2]
structure Spot (rows : List (List Int × List Nat)) (d : Draw) (k : Nat) (xk : List Int × List Nat) : Prop where
 m : Dues xk.2 d.wants (duesD d k xk)
 q1 : smallL (sliceS xk.2 none (some 1) none) = true
 q2 : smallL (sliceS xk.2 (some (-1)) none none) = true
 g : xk.1.length < 100
 n : xk.2.length < 1000
structure DOk (rows : List (List Int × List Nat)) (d : Draw) : Prop where
 hs : smallL rows = true
 x1 : nth rows d.o1 = some d.x1
 x2 : nth rows d.o2 = some d.x2
 g1 : d.x1.1.length < 100
 g2 : d.x2.1.length < 100
 l1 : d.x1.2.length < 1000
 f : d.f.length < 1000
 e : d.e.length < 1000
 q : smallL (sliceS d.t none (some 1) none) = true
 a : smallL d.arc = true
 spots : ∀ k xk, nth rows k = some xk → Spot rows d k xk
section
variable {c0 c1 c2 c3 : Int} {rows : List (List Int × List Nat)} {ring worths : List Int} {H : St} {d : Draw} {n k : Nat} {lo : Lo} {xk : List Int × List Nat}
theorem DH.app (h : DH c0 c1 c2 c3 rows ring worths d H) (t : St) : DH c0 c1 c2 c3 rows ring worths d (H ++ t) :=
 ⟨h.s.app t, getCell_app h.f, getCell_app h.e, getLst_app h.a, getLst_app h.w, h.i1, h.i2⟩
theorem lst_set {i j : Nat} {xs : List AV} {o : AO} (h : getLst H j = some xs) (n : Nat.beq i j = false) : getLst (setN o H i) j = some xs := lst_at.mpr (by rw [nth_setN j (lst_at.mp h) i, n]; rfl)
theorem DH.set1 (h : DH c0 c1 c2 c3 rows ring worths d H) (v : Option AV) : DH c0 c1 c2 c3 rows ring worths d (setN (.cell v) H 1) :=
 ⟨h.s.set 1 rfl v, cell_at.mpr (nth_setN 3 (cell_at.mp h.f) 1), cell_at.mpr (nth_setN 2 (cell_at.mp h.e) 1), lst_set h.a h.i1, lst_set h.w h.i2, h.i1, h.i2⟩
theorem body_27 (D : DOk rows d) (h : DH c0 c1 c2 c3 rows ring worths d H) (l : Kno (tblD d) lo) (hxk : nth rows k = some xk) :
  ∃ lo' H', forF (lvlO (n+12)) Zt37 Zt39 ceL 0 (.tup [.int k, .str xk.2]) (.nx, lo, H) = some ((.nx, lo', H'), true) ∧ DH c0 c1 c2 c3 rows ring worths d H' ∧ Kno (tblD d) lo' ∧ H'.length = H.length + 3 := by
 have P := D.spots k xk hxk
 obtain ⟨v1, k1⟩ := h.s.k 1 rfl
 have hA : asgM Zt37 (.tup [.int k, .str xk.2]) lo ceL 0 H = some (setL 129 (.int k) lo, setN (.cell (some (.str xk.2))) H 1) := by
  show ob2 (storeM 143 (.str xk.2) (setL 129 (.int k) lo) ceL 0 H) _ = _
  rw [st_cell rfl ⟨v1, k1⟩ rfl]; rfl
 have h1 := h.set1 (some (.str xk.2))
 have n1 : getCell (setN (.cell (some (.str xk.2))) H 1) 1 = some (.str xk.2) := cell_at.mpr (nth_setN 1 k1 1)
 have l1 := l.set (k := 129) (v := .int k)
 have e0 := b_144 (n := n) (l1 129 _ rfl) (l1 79 _ rfl) (l1 137 _ rfl) (l1 140 _ rfl) h1.a h1.f h1.e n1 D.a (small_1k (by have := D.f; omega)) (small_1k (by have := D.e; omega)) (small_1k (by have := P.n; omega))
 have l2 := l1.set (k := 144) (v := .bool (bothM k d.k1 d.r d.arc d.f d.e xk.2))
 have e1 := b_145 (n := n) h1.s D.hs (l2 129 _ rfl) (l2 132 _ rfl) D.x1 n1 D.l1 P.q1 P.q2
 have l3 := l2.set (k := 145) (v := .bool (heldM k d.o1 d.x1.2 xk.2))
 have e2 := b_146 (n := n) h1.s D.hs (l3 129 _ rfl) (l3 133 _ rfl) hxk D.x2 P.g D.g2
 have l4 := l3.set (k := 146) (v := .bool (greatM xk.1 d.x2.1))
 have e3 := b_147 (n := n) h1.s D.hs (l4 129 _ rfl) (l4 132 _ rfl) (l4 133 _ rfl) (l4 141 _ rfl) (l4 144 _ rfl) (l4 145 _ rfl) (l4 146 _ rfl) hxk D.x1 D.x2 n1 P.g D.g1 D.q
 have l5 := l4.set (k := 147) (v := .ref (setN (.cell (some (.str xk.2))) H 1).length)
 have h2 := h1.app [.lst ((duesD d k xk).map .bool)]
 have e4 := b_if (n := n) (l5 142 _ rfl) (l5 147 _ rfl) h2.w (getLst_last _ ((duesD d k xk).map .bool)) (show 5 < 100 by decide) (show 5 < 100 by decide) (getCell_app n1) P.m
 refine ⟨_, _, ?_, (h2.app [.lst []]).app [.lst []], ((((l5.drop rfl).drop rfl).drop rfl).drop rfl).drop rfl, ?_⟩
 ·show ob2 (asgM Zt37 (.tup [.int k, .str xk.2]) lo ceL 0 H) _ = _
  rw [hA]
  show obX (exS (lvlO (n+11)) ([Zt29] ++ ([Zt30] ++ ([Zt31] ++ ([Zt32] ++ [Zt33])))) (setL 129 (.int k) lo) ceL 0 (setN (.cell (some (.str xk.2))) H 1)) _ _ = _
  rw [exS_app e0, exS_app e1, exS_app e2, exS_app e3]
  show obX (exS (lvlO (n+11)) [Zt33] _ ceL 0 (_ ++ [.lst ((duesD d k xk).map .bool)])) _ _ = _
  rw [e4]; rfl
 ·rw [List.length_append, List.length_append, List.length_append, setN_len]; rfl
structure At27 (c0 c1 c2 c3 : Int) (rows : List (List Int × List Nat)) (ring worths : List Int) (d : Draw) (n0 k : Nat) (lo : Lo) (K : St) : Prop where
 h : DH c0 c1 c2 c3 rows ring worths d K
 l : Kno (tblD d) lo
 n : K.length = n0 + 3 * k
noncomputable def enumV (rows : List (List Int × List Nat)) : List AV := (List.range rows.length).map fun (k : Nat) => (nth rows k).elim .none fun x => AV.tup [.int k, .str x.2]
theorem nth_enum (k : Nat) : nth (enumV rows) k = ob1 (nth (rows.map fun x => AV.str x.2) k) fun v => some (.tup [.int k, v]) := by
 unfold enumV
 rw [nth_map, nth_map]
 by_cases h : k < rows.length
 ·obtain ⟨x, e2⟩ := nth_ok h
  have e1 : nth (List.range rows.length) k = some k := by rw [nth_get]; exact List.getElem?_range h
  rw [e1]
  show some ((nth rows k).elim AV.none fun x => AV.tup [.int k, .str x.2]) = _
  rw [e2]; rfl
 ·rw [nth_get, nth_get, List.getElem?_eq_none (by rw [List.length_range]; omega), List.getElem?_eq_none (by omega)]; rfl
theorem e_27 (D : DOk rows d) (hr : rows.length < 90) (h : DH c0 c1 c2 c3 rows ring worths d H) (l : Kno (tblD d) lo) :
  ∃ lo' H', exS (lvlO (n+12)) [Zt56] lo ceL 0 H = some (.nx, lo', H') ∧ At27 c0 c1 c2 c3 rows ring worths d H.length rows.length lo' H' := by
 have hl : (enumV rows).length = rows.length := by unfold enumV; rw [List.length_map, List.length_range]
 have hit : itM (fun x K => (lvlO (n+12)).ev x lo ceL 0 K) Zt38 H = some (.en (.lst 14), H) := it_en (v_var h.s.n) h.s.l14
 rw [← hl]
 refine (loop_inv (c := 100) (F := forF (lvlO (n+12)) Zt37 Zt39 ceL 0) (s := .en (.lst 14)) (items := enumV rows) (Inv := At27 c0 c1 c2 c3 rows ring worths d H.length)
  (fun _ _ _ i k => (src_en (src_lst i.h.s.l14 (by rw [smallL_map]; exact D.hs))).trans (congrArg some (nth_enum k).symm)) (fun j x lo K hx i => ?_) (by omega) ⟨h, l, rfl⟩).imp fun lo' q => q.imp fun H' q => ⟨exS_nx ((ex_fors hit).trans q.1), q.2⟩
 obtain ⟨xk, hxk⟩ := nth_ok (xs := rows) (k := j) (hl ▸ nth_lt hx)
 rw [nth_enum, nth_name hxk] at hx
 obtain rfl := sI1 hx
 exact (body_27 (n := n) D i.h i.l hxk).imp fun lo' q => q.imp fun H' q => ⟨q.1, q.2.1, q.2.2.1, by rw [q.2.2.2, i.n]; rfl⟩
theorem v_tup {cl : Nat → List AV → List (Nat × AV) → Nat → St → Option (AV × St)} {L : Lvl} {ce : Ce} {b : Nat} {es : List X} {xs : List AV} {p : Pos} {H1 : St} (e : evs (fun x H => L.ev x lo ce b H) es H = some (xs, H1)) (h : smallL xs = true) : (up cl L).ev (.tupl es p) lo ce b H = some (.tup xs, H1) := by
 show ob2 (evs (fun x H => L.ev x lo ce b H) es H) _ = _
 rw [e]; show gd (smallL xs) _ = _; rw [h]; rfl
theorem eq_fig {l : List Int} (hl : smallL l = true) : eqM (.tup [.tup (l.map .int), .int 0]) (.tup [.tup (l.map .int), .int 0]) H = some true := by
 have h2 : eq1 (.tup (l.map AV.int)) (.tup (l.map .int)) = some true := by
  show alt (gd (smallL (l.map AV.int) && smallL (l.map AV.int) && Nat.beq (l.map AV.int).length (l.map AV.int).length) (eqs eq0 (l.map AV.int) (l.map AV.int))) _ = _
  rw [smallL_map, hl, Nat.beq_refl, eqs_self]; rfl
 show alt (ob1 (eq1 (.tup (l.map AV.int)) (.tup (l.map .int))) _) _ = _
 rw [h2]; rfl
theorem e_28 (D : DOk rows d) (h : DH c0 c1 c2 c3 rows ring worths d H) (l : Kno (tblD d) lo)
  (f1 : (lvlO (n+9)).cl 18 [.int d.o1, .ref 10] [] 0 H = some (.tup [.tup (d.x1.1.map .int), .int 0], H)) (f2 : (lvlO (n+9)).cl 18 [.int d.o2, .ref 10] [] 0 H = some (.tup [.tup (d.x2.1.map .int), .int 0], H)) :
  exS (lvlO (n+12)) [Zt57] lo ceL 0 H = some (.rt (.bool true), lo, H) := by
 have hs : smallL (rows.map rowV) = true := by rw [smallL_map]; exact D.hs
 have q : ∀ {l : List Int}, l.length < 100 → eqM (.tup [.tup (l.map .int), .int 0]) (.tup [.tup (l.map .int), .int 0]) H = some true := fun h => eq_fig (small_1k (by omega))
 have e3 : (lvlO (n+12)).ev Zt40 lo ceL 0 H = some (.bool (true && true), H) := and2 (f := fun x H => (lvlO (n+11)).ev x lo ceL 0 H)
  (v_cmpv (v_gcall (evs_2 (v_lk rfl (l 132 _ rfl)) (v_var h.s.w)) rfl f1) (v_tup (evs_2 (v_idx (v_idx (v_var h.s.r) (v_lk rfl (l 132 _ rfl)) (idx_nat h.s.l11 hs (nth_rowV D.x1))) rfl rfl) rfl) rfl) (q D.g1))
  fun _ => v_cmpv (v_gcall (evs_2 (v_lk rfl (l 133 _ rfl)) (v_var h.s.w)) rfl f2) (v_tup (evs_2 (v_idx (v_idx (v_var h.s.r) (v_lk rfl (l 133 _ rfl)) (idx_nat h.s.l11 hs (nth_rowV D.x2))) rfl rfl) rfl) rfl) (q D.g2)
 refine exS_rt1 ?_
 show ob2 ((lvlO (n+12)).ev Zt40 lo ceL 0 H) _ = _
 rw [e3]; rfl
end
structure Dat where
 size : Nat
 step : Nat
 quots : List Int
 rests : List Int
 worths : List Int
 rows : List (List Int × List Nat)
 hues : List Int
 wheel : List Int
 s1 : List Int
 s2 : List Int
 ring : List Nat
 keys : List (List Int)
 cut : Nat
noncomputable def d0 : Dat := { size := 8, step := 1, quots := [8], rests := [-8, 1, 0], worths := [0, 1, 8], rows := [([0], []), ([1], [97]), ([2], [97, 97]), ([3], [97, 97, 97]), ([4], [97, 97, 97, 97]), ([5], [97, 97, 97, 97, 97]), ([6], [97, 97, 97, 97, 97, 97]), ([7], [97, 97, 97, 97, 97, 97, 97])], hues := [0, 128, 256, 384, 512, 640, 768, 896], wheel := [0, 1, 2, 3, 4, 5, 6, 7], s1 := [], s2 := [0, 1, 2, 3, 4, 5, 6, 7], ring := [0, 1, 2, 3, 4, 5, 6, 7], keys := [[0], [1], [2], [3], [4], [5], [6], [7]], cut := 8 }
noncomputable def d1 : Dat := { size := 8, step := 3, quots := [2, 1, 2], rests := [-8, 3, -2, 1, 0], worths := [0, 1, 2, 3, 8], rows := [([0, 0, 0], []), ([0, 0, 1], [97]), ([0, 1, 0], [98]), ([1, 0, 0], [99]), ([1, 0, 1], [99, 97]), ([1, 1, 0], [99, 98]), ([2, 0, 0], [99, 99]), ([2, 0, 1], [99, 99, 97])], hues := [0, 384, 768, 128, 512, 896, 256, 640], wheel := [0, 3, 6, 1, 4, 7, 2, 5], s1 := [2, 5], s2 := [0, 3, 6, 1, 4, 7], ring := [2, 5, 0, 3, 6, 1, 4, 7], keys := [[0, 0, 0], [1, 0, 0], [0, -1, 0], [0, 0, 1], [1, 0, 1], [0, -1, 1], [0, 0, 2], [1, 0, 2]], cut := 6 }
noncomputable def d2 : Dat := { size := 8, step := 5, quots := [1, 1, 1, 2], rests := [-8, 5, -3, 2, -1, 0], worths := [0, 1, 1, 2, 3, 8], rows := [([0, 0, 0, 0], []), ([0, 0, 1, 0], [98]), ([0, 1, 0, 0], [99]), ([1, 0, 0, 0], [100]), ([1, 0, 1, 0], [100, 98]), ([1, 1, 0, 0], [100, 99]), ([2, 0, 0, 0], [100, 100]), ([2, 0, 1, 0], [100, 100, 98])], hues := [0, 640, 256, 896, 512, 128, 768, 384], wheel := [0, 5, 2, 7, 4, 1, 6, 3], s1 := [7, 4, 1, 6, 3], s2 := [0, 5, 2], ring := [7, 4, 1, 6, 3, 0, 5, 2], keys := [[0, 0, 0, 0], [0, -1, 0, 0], [0, 0, 1, 0], [0, 0, 0, -1], [0, -1, 0, -1], [0, 0, 1, -1], [0, 0, 0, -2], [0, -1, 0, -2]], cut := 3 }
noncomputable def d3 : Dat := { size := 8, step := 7, quots := [1, 7], rests := [-8, 7, -1, 0], worths := [0, 1, 1, 8], rows := [([0, 0], []), ([1, 0], [98]), ([2, 0], [98, 98]), ([3, 0], [98, 98, 98]), ([4, 0], [98, 98, 98, 98]), ([5, 0], [98, 98, 98, 98, 98]), ([6, 0], [98, 98, 98, 98, 98, 98]), ([7, 0], [98, 98, 98, 98, 98, 98, 98])], hues := [0, 896, 768, 640, 512, 384, 256, 128], wheel := [0, 7, 6, 5, 4, 3, 2, 1], s1 := [7, 6, 5, 4, 3, 2, 1], s2 := [0], ring := [7, 6, 5, 4, 3, 2, 1, 0], keys := [[0, 0], [0, -1], [0, -2], [0, -3], [0, -4], [0, -5], [0, -6], [0, -7]], cut := 1 }
noncomputable def d4 : Dat := { size := 16, step := 1, quots := [16], rests := [-16, 1, 0], worths := [0, 1, 16], rows := [([0], []), ([1], [97]), ([2], [97, 97]), ([3], [97, 97, 97]), ([4], [97, 97, 97, 97]), ([5], [97, 97, 97, 97, 97]), ([6], [97, 97, 97, 97, 97, 97]), ([7], [97, 97, 97, 97, 97, 97, 97]), ([8], [97, 97, 97, 97, 97, 97, 97, 97]), ([9], [97, 97, 97, 97, 97, 97, 97, 97, 97]), ([10], [97, 97, 97, 97, 97, 97, 97, 97, 97, 97]), ([11], [97, 97, 97, 97, 97, 97, 97, 97, 97, 97, 97]), ([12], [97, 97, 97, 97, 97, 97, 97, 97, 97, 97, 97, 97]), ([13], [97, 97, 97, 97, 97, 97, 97, 97, 97, 97, 97, 97, 97]), ([14], [97, 97, 97, 97, 97, 97, 97, 97, 97, 97, 97, 97, 97, 97]), ([15], [97, 97, 97, 97, 97, 97, 97, 97, 97, 97, 97, 97, 97, 97, 97])], hues := [0, 64, 128, 192, 256, 320, 384, 448, 512, 576, 640, 704, 768, 832, 896, 960], wheel := [0, 1, 2, 3, 4, 5, 6, 7, 8, 9, 10, 11, 12, 13, 14, 15], s1 := [], s2 := [0, 1, 2, 3, 4, 5, 6, 7, 8, 9, 10, 11, 12, 13, 14, 15], ring := [0, 1, 2, 3, 4, 5, 6, 7, 8, 9, 10, 11, 12, 13, 14, 15], keys := [[0], [1], [2], [3], [4], [5], [6], [7], [8], [9], [10], [11], [12], [13], [14], [15]], cut := 16 }
noncomputable def d5 : Dat := { size := 16, step := 3, quots := [5, 3], rests := [-16, 3, -1, 0], worths := [0, 1, 5, 16], rows := [([0, 0], []), ([0, 1], [97]), ([0, 2], [97, 97]), ([0, 3], [97, 97, 97]), ([0, 4], [97, 97, 97, 97]), ([1, 0], [98]), ([1, 1], [98, 97]), ([1, 2], [98, 97, 97]), ([1, 3], [98, 97, 97, 97]), ([1, 4], [98, 97, 97, 97, 97]), ([2, 0], [98, 98]), ([2, 1], [98, 98, 97]), ([2, 2], [98, 98, 97, 97]), ([2, 3], [98, 98, 97, 97, 97]), ([2, 4], [98, 98, 97, 97, 97, 97]), ([3, 0], [98, 98, 98])], hues := [0, 192, 384, 576, 768, 960, 128, 320, 512, 704, 896, 64, 256, 448, 640, 832], wheel := [0, 11, 6, 1, 12, 7, 2, 13, 8, 3, 14, 9, 4, 15, 10, 5], s1 := [15, 10, 5], s2 := [0, 11, 6, 1, 12, 7, 2, 13, 8, 3, 14, 9, 4], ring := [15, 10, 5, 0, 11, 6, 1, 12, 7, 2, 13, 8, 3, 14, 9, 4], keys := [[0, 0], [1, 0], [2, 0], [3, 0], [4, 0], [0, -1], [1, -1], [2, -1], [3, -1], [4, -1], [0, -2], [1, -2], [2, -2], [3, -2], [4, -2], [0, -3]], cut := 13 }
noncomputable def d6 : Dat := { size := 16, step := 5, quots := [3, 5], rests := [-16, 5, -1, 0], worths := [0, 1, 3, 16], rows := [([0, 0], []), ([0, 1], [97]), ([0, 2], [97, 97]), ([1, 0], [98]), ([1, 1], [98, 97]), ([1, 2], [98, 97, 97]), ([2, 0], [98, 98]), ([2, 1], [98, 98, 97]), ([2, 2], [98, 98, 97, 97]), ([3, 0], [98, 98, 98]), ([3, 1], [98, 98, 98, 97]), ([3, 2], [98, 98, 98, 97, 97]), ([4, 0], [98, 98, 98, 98]), ([4, 1], [98, 98, 98, 98, 97]), ([4, 2], [98, 98, 98, 98, 97, 97]), ([5, 0], [98, 98, 98, 98, 98])], hues := [0, 320, 640, 960, 256, 576, 896, 192, 512, 832, 128, 448, 768, 64, 384, 704], wheel := [0, 13, 10, 7, 4, 1, 14, 11, 8, 5, 2, 15, 12, 9, 6, 3], s1 := [15, 12, 9, 6, 3], s2 := [0, 13, 10, 7, 4, 1, 14, 11, 8, 5, 2], ring := [15, 12, 9, 6, 3, 0, 13, 10, 7, 4, 1, 14, 11, 8, 5, 2], keys := [[0, 0], [1, 0], [2, 0], [0, -1], [1, -1], [2, -1], [0, -2], [1, -2], [2, -2], [0, -3], [1, -3], [2, -3], [0, -4], [1, -4], [2, -4], [0, -5]], cut := 11 }
noncomputable def d7 : Dat := { size := 16, step := 7, quots := [2, 3, 2], rests := [-16, 7, -2, 1, 0], worths := [0, 1, 2, 7, 16], rows := [([0, 0, 0], []), ([0, 0, 1], [97]), ([0, 1, 0], [98]), ([0, 1, 1], [98, 97]), ([0, 2, 0], [98, 98]), ([0, 2, 1], [98, 98, 97]), ([0, 3, 0], [98, 98, 98]), ([1, 0, 0], [99]), ([1, 0, 1], [99, 97]), ([1, 1, 0], [99, 98]), ([1, 1, 1], [99, 98, 97]), ([1, 2, 0], [99, 98, 98]), ([1, 2, 1], [99, 98, 98, 97]), ([1, 3, 0], [99, 98, 98, 98]), ([2, 0, 0], [99, 99]), ([2, 0, 1], [99, 99, 97])], hues := [0, 448, 896, 320, 768, 192, 640, 64, 512, 960, 384, 832, 256, 704, 128, 576], wheel := [0, 7, 14, 5, 12, 3, 10, 1, 8, 15, 6, 13, 4, 11, 2, 9], s1 := [6, 13, 4, 11, 2, 9], s2 := [0, 7, 14, 5, 12, 3, 10, 1, 8, 15], ring := [6, 13, 4, 11, 2, 9, 0, 7, 14, 5, 12, 3, 10, 1, 8, 15], keys := [[0, 0, 0], [1, 0, 0], [0, -1, 0], [1, -1, 0], [0, -2, 0], [1, -2, 0], [0, -3, 0], [0, 0, 1], [1, 0, 1], [0, -1, 1], [1, -1, 1], [0, -2, 1], [1, -2, 1], [0, -3, 1], [0, 0, 2], [1, 0, 2]], cut := 10 }
noncomputable def d8 : Dat := { size := 16, step := 9, quots := [1, 1, 3, 2], rests := [-16, 9, -7, 2, -1, 0], worths := [0, 1, 1, 2, 7, 16], rows := [([0, 0, 0, 0], []), ([0, 0, 1, 0], [98]), ([0, 1, 0, 0], [99]), ([0, 1, 1, 0], [99, 98]), ([0, 2, 0, 0], [99, 99]), ([0, 2, 1, 0], [99, 99, 98]), ([0, 3, 0, 0], [99, 99, 99]), ([1, 0, 0, 0], [100]), ([1, 0, 1, 0], [100, 98]), ([1, 1, 0, 0], [100, 99]), ([1, 1, 1, 0], [100, 99, 98]), ([1, 2, 0, 0], [100, 99, 99]), ([1, 2, 1, 0], [100, 99, 99, 98]), ([1, 3, 0, 0], [100, 99, 99, 99]), ([2, 0, 0, 0], [100, 100]), ([2, 0, 1, 0], [100, 100, 98])], hues := [0, 576, 128, 704, 256, 832, 384, 960, 512, 64, 640, 192, 768, 320, 896, 448], wheel := [0, 9, 2, 11, 4, 13, 6, 15, 8, 1, 10, 3, 12, 5, 14, 7], s1 := [15, 8, 1, 10, 3, 12, 5, 14, 7], s2 := [0, 9, 2, 11, 4, 13, 6], ring := [15, 8, 1, 10, 3, 12, 5, 14, 7, 0, 9, 2, 11, 4, 13, 6], keys := [[0, 0, 0, 0], [0, -1, 0, 0], [0, 0, 1, 0], [0, -1, 1, 0], [0, 0, 2, 0], [0, -1, 2, 0], [0, 0, 3, 0], [0, 0, 0, -1], [0, -1, 0, -1], [0, 0, 1, -1], [0, -1, 1, -1], [0, 0, 2, -1], [0, -1, 2, -1], [0, 0, 3, -1], [0, 0, 0, -2], [0, -1, 0, -2]], cut := 7 }
noncomputable def d9 : Dat := { size := 16, step := 11, quots := [1, 2, 5], rests := [-16, 11, -5, 1, 0], worths := [0, 1, 1, 3, 16], rows := [([0, 0, 0], []), ([0, 1, 0], [98]), ([0, 2, 0], [98, 98]), ([1, 0, 0], [99]), ([1, 1, 0], [99, 98]), ([1, 2, 0], [99, 98, 98]), ([2, 0, 0], [99, 99]), ([2, 1, 0], [99, 99, 98]), ([2, 2, 0], [99, 99, 98, 98]), ([3, 0, 0], [99, 99, 99]), ([3, 1, 0], [99, 99, 99, 98]), ([3, 2, 0], [99, 99, 99, 98, 98]), ([4, 0, 0], [99, 99, 99, 99]), ([4, 1, 0], [99, 99, 99, 99, 98]), ([4, 2, 0], [99, 99, 99, 99, 98, 98]), ([5, 0, 0], [99, 99, 99, 99, 99])], hues := [0, 704, 384, 64, 768, 448, 128, 832, 512, 192, 896, 576, 256, 960, 640, 320], wheel := [0, 3, 6, 9, 12, 15, 2, 5, 8, 11, 14, 1, 4, 7, 10, 13], s1 := [2, 5, 8, 11, 14, 1, 4, 7, 10, 13], s2 := [0, 3, 6, 9, 12, 15], ring := [2, 5, 8, 11, 14, 1, 4, 7, 10, 13, 0, 3, 6, 9, 12, 15], keys := [[0, 0, 0], [0, -1, 0], [0, -2, 0], [0, 0, 1], [0, -1, 1], [0, -2, 1], [0, 0, 2], [0, -1, 2], [0, -2, 2], [0, 0, 3], [0, -1, 3], [0, -2, 3], [0, 0, 4], [0, -1, 4], [0, -2, 4], [0, 0, 5]], cut := 6 }
noncomputable def d10 : Dat := { size := 16, step := 13, quots := [1, 4, 3], rests := [-16, 13, -3, 1, 0], worths := [0, 1, 1, 5, 16], rows := [([0, 0, 0], []), ([0, 1, 0], [98]), ([0, 2, 0], [98, 98]), ([0, 3, 0], [98, 98, 98]), ([0, 4, 0], [98, 98, 98, 98]), ([1, 0, 0], [99]), ([1, 1, 0], [99, 98]), ([1, 2, 0], [99, 98, 98]), ([1, 3, 0], [99, 98, 98, 98]), ([1, 4, 0], [99, 98, 98, 98, 98]), ([2, 0, 0], [99, 99]), ([2, 1, 0], [99, 99, 98]), ([2, 2, 0], [99, 99, 98, 98]), ([2, 3, 0], [99, 99, 98, 98, 98]), ([2, 4, 0], [99, 99, 98, 98, 98, 98]), ([3, 0, 0], [99, 99, 99])], hues := [0, 832, 640, 448, 256, 64, 896, 704, 512, 320, 128, 960, 768, 576, 384, 192], wheel := [0, 5, 10, 15, 4, 9, 14, 3, 8, 13, 2, 7, 12, 1, 6, 11], s1 := [4, 9, 14, 3, 8, 13, 2, 7, 12, 1, 6, 11], s2 := [0, 5, 10, 15], ring := [4, 9, 14, 3, 8, 13, 2, 7, 12, 1, 6, 11, 0, 5, 10, 15], keys := [[0, 0, 0], [0, -1, 0], [0, -2, 0], [0, -3, 0], [0, -4, 0], [0, 0, 1], [0, -1, 1], [0, -2, 1], [0, -3, 1], [0, -4, 1], [0, 0, 2], [0, -1, 2], [0, -2, 2], [0, -3, 2], [0, -4, 2], [0, 0, 3]], cut := 4 }
noncomputable def d11 : Dat := { size := 16, step := 15, quots := [1, 15], rests := [-16, 15, -1, 0], worths := [0, 1, 1, 16], rows := [([0, 0], []), ([1, 0], [98]), ([2, 0], [98, 98]), ([3, 0], [98, 98, 98]), ([4, 0], [98, 98, 98, 98]), ([5, 0], [98, 98, 98, 98, 98]), ([6, 0], [98, 98, 98, 98, 98, 98]), ([7, 0], [98, 98, 98, 98, 98, 98, 98]), ([8, 0], [98, 98, 98, 98, 98, 98, 98, 98]), ([9, 0], [98, 98, 98, 98, 98, 98, 98, 98, 98]), ([10, 0], [98, 98, 98, 98, 98, 98, 98, 98, 98, 98]), ([11, 0], [98, 98, 98, 98, 98, 98, 98, 98, 98, 98, 98]), ([12, 0], [98, 98, 98, 98, 98, 98, 98, 98, 98, 98, 98, 98]), ([13, 0], [98, 98, 98, 98, 98, 98, 98, 98, 98, 98, 98, 98, 98]), ([14, 0], [98, 98, 98, 98, 98, 98, 98, 98, 98, 98, 98, 98, 98, 98]), ([15, 0], [98, 98, 98, 98, 98, 98, 98, 98, 98, 98, 98, 98, 98, 98, 98])], hues := [0, 960, 896, 832, 768, 704, 640, 576, 512, 448, 384, 320, 256, 192, 128, 64], wheel := [0, 15, 14, 13, 12, 11, 10, 9, 8, 7, 6, 5, 4, 3, 2, 1], s1 := [15, 14, 13, 12, 11, 10, 9, 8, 7, 6, 5, 4, 3, 2, 1], s2 := [0], ring := [15, 14, 13, 12, 11, 10, 9, 8, 7, 6, 5, 4, 3, 2, 1, 0], keys := [[0, 0], [0, -1], [0, -2], [0, -3], [0, -4], [0, -5], [0, -6], [0, -7], [0, -8], [0, -9], [0, -10], [0, -11], [0, -12], [0, -13], [0, -14], [0, -15]], cut := 1 }
noncomputable def dats : List Dat := [d0, d1, d2, d3, d4, d5, d6, d7, d8, d9, d10, d11]
noncomputable def forceL {α : Type} : List Nat → (List Nat → α) → α
 | [], k => k []
 | c :: t, k => forceL t fun t' => k (c :: t')
theorem forceL_eq {α : Type} (l : List Nat) : ∀ k : List Nat → α, forceL l k = k l := by
 induction l with
 | nil => exact fun _ => rfl
 | cons c t ih => exact fun k => ih fun t' => k (c :: t')
noncomputable def onB {α : Type} (o : Option α) (f : α → Bool) : Bool := o.elim false f
theorem onB_inv {α : Type} {o : Option α} {f : α → Bool} (h : onB o f = true) : ∃ x, o = some x ∧ f x = true := by
 cases o with
 | none => exact nomatch h
 | some x => exact ⟨x, rfl, h⟩
noncomputable def someB (o : Option Bool) (y : Bool) : Bool := onB o fun x => x == y
noncomputable def eqLI : List Int → List Int → Bool
 | [], t => t.isEmpty
 | a :: r, t => onB t.head? fun b => eqI a b && eqLI r t.tail
noncomputable abbrev Rows := List (List Int × List Nat)
noncomputable def numAt (rows : Rows) (fr : List Nat) : Option Nat := findIx (fun x => eqL x fr) (rows.map fun x => x.2) 0
noncomputable def ckCut (rows : Rows) (n : List Nat) : Bool := (List.range (n.length + 1)).all fun f =>
 forceL (sliceS n none (some (f : Int)) none) (fun fr => (numAt rows fr).isSome) && forceL (sliceS n (some (f : Int)) none none) (fun fr => (numAt rows fr).isSome)
noncomputable def ckFront (rows : Rows) (z k1 : Nat) (fr : List Nat) : Bool := onB (bisL true (rows.map fun x => !pre fr x.2) 100 k1 z) fun r => Nat.blt r 1000 && eqLI ((rangeL 0 z 1).filter (preI rows fun x => pre fr x)) (rangeL k1 r 1)
noncomputable def ckEnd (rows : Rows) (ring : List Nat) (z k2 : Nat) (e : List Nat) : Bool := onB (findIx (fun x => eqI x k2) (ring.map fun (k : Nat) => (k : Int)) 0) fun k3 => onB (bisL true (ring.map (preN rows fun x => pre e.reverse x.reverse)) 100 0 k3) fun r2 =>
 onB (bisR false (ring.map (preN rows fun x => !pre e.reverse x.reverse)) 100 k3 z) fun r3 => Nat.blt r2 1000 && (Nat.blt r3 1000 && (Nat.blt k3 1000 && eqLI ((rangeL 0 z 1).filter (preI rows fun x => pre e.reverse x.reverse)) (sortI (sliceL (ring.map fun (k : Nat) => (k : Int)) (some (r2 : Int)) (some (r3 : Int)) none))))
noncomputable def allK (rows : Rows) (p : Nat → List Int × List Nat → Bool) : Bool := (List.range rows.length).all fun k => onB (nth rows k) (p k)
noncomputable def ckOne (rows : Rows) (o1 : Nat) (x1 : List Int × List Nat) : Bool := forceL (want2 x1.2) fun w2 => allK rows fun k xk => someB (ellO x1.2 xk.2) (eqI k o1) && someB (ellO w2 xk.2) (heldM k o1 x1.2 xk.2 && greatM xk.1 x1.1)
noncomputable def ckOther (rows : Rows) (x2 : List Int × List Nat) : Bool := forceL (sliceS x2.2 none none (some (-1))) fun t => forceL ([46, 46, 46] ++ want2 x2.2) fun w3 => forceL (([46, 46, 46] ++ want2 t) ++ [46, 46, 46]) fun w4 => forceL (sliceS t none (some 1) none) fun t1 =>
 allK rows fun k xk => someB (ellO w3 xk.2) (greatM xk.1 x2.1 && pre t1.reverse xk.2.reverse) && someB (ellO w4 xk.2) (greatM xk.1 x2.1 && eqL t x2.2)
noncomputable def ckMisc (d : Dat) : Bool := (Nat.beq d.size 8 || Nat.beq d.size 16) && (Nat.beq d.rows.length d.size && (Nat.beq d.ring.length d.size && (d.ring.all (fun k => Nat.blt k d.size) && d.rows.all fun x => Nat.blt x.1.length 50 && (Nat.blt x.2.length 50 && noDot x.2))))
theorem t_misc : dats.all ckMisc = true := by decide +kernel
theorem t_cut : (dats.all fun d => allK d.rows (fun _ x => ckCut d.rows x.2)) = true := by decide +kernel
theorem t_front : (dats.all fun d => allK d.rows (fun k x => ckFront d.rows d.size k x.2)) = true := by decide +kernel
theorem t_end : (dats.all fun d => allK d.rows (fun k x => ckEnd d.rows d.ring d.size k x.2)) = true := by decide +kernel
theorem t_one : (dats.all fun d => allK d.rows (fun k x => ckOne d.rows k x)) = true := by decide +kernel
theorem t_other : (dats.all fun d => allK d.rows (fun k x => ckOther d.rows x)) = true := by decide +kernel
section
variable {rows : Rows} {p : Nat → List Int × List Nat → Bool} {k z k1 r : Nat} {x : List Int × List Nat} {fr f e : List Nat} {arc : List Int} {q : List Nat → Bool}
theorem allK_at (h : allK rows p = true) (hk : nth rows k = some x) : p k x = true := by
 have := List.all_eq_true.mp h k (List.mem_range.mpr (nth_lt hk))
 rw [hk] at this
 exact this
theorem someB_eq {o : Option Bool} {t : Bool} (h : someB o t = true) : o = some t := by
 obtain ⟨x, rfl, h⟩ := onB_inv h
 rw [eq_of_beq h]
theorem eqLI_eq (a : List Int) : ∀ {b : List Int}, eqLI a b = true → a = b := by
 induction a with
 | nil =>
  intro b h
  cases b with
  | nil => rfl
  | cons => exact nomatch h
 | cons a r ih =>
  intro b h
  cases b with
  | nil => exact nomatch h
  | cons b t =>
   obtain ⟨h1, h2⟩ := and_all h
   rw [(W.Z.eqB_iff _ _).mp h1, ih h2]; rfl
theorem eqL_eq (a : List Nat) : ∀ {b : List Nat}, eqL a b = true → a = b := by
 induction a with
 | nil =>
  intro b h
  cases b with
  | nil => rfl
  | cons => exact nomatch h
 | cons a r ih =>
  intro b h
  cases b with
  | nil => exact nomatch h
  | cons b t =>
   have h : (match Nat.beq a b with | true => eqL r t | false => false) = true := h
   cases q : Nat.beq a b with
   | true => rw [q] at h; rw [Nat.eq_of_beq_eq_true q, ih h]
   | false => rw [q] at h; exact nomatch h
theorem findIx_at {α : Type} {p : α → Bool} (l : List α) : ∀ {k r : Nat}, findIx p l k = some r → ∃ j x, r = k + j ∧ nth l j = some x ∧ p x = true := by
 induction l with
 | nil => exact fun h => nomatch h
 | cons x l ih =>
  intro k r h
  have h : cond (p x) (some k) (findIx p l (k + 1)) = some r := h
  cases q : p x with
  | true => rw [q] at h; obtain rfl := sI1 h; exact ⟨0, x, rfl, rfl, q⟩
  | false =>
   rw [q] at h
   obtain ⟨j, y, h1, h2, h3⟩ := ih h
   exact ⟨j + 1, y, by rw [h1, Nat.add_assoc, Nat.add_comm 1 j], h2, h3⟩
theorem cut_row (h : (numAt rows fr).isSome = true) : ∃ k x, numAt rows fr = some k ∧ nth rows k = some x ∧ x.2 = fr := by
 obtain ⟨k, q⟩ := Option.isSome_iff_exists.mp h
 obtain ⟨j, y, h1, h2, h3⟩ := findIx_at _ q
 rw [nth_map] at h2
 obtain ⟨x, hx, rfl⟩ := Option.map_eq_some_iff.mp h2
 rw [Nat.zero_add] at h1
 exact ⟨k, x, q, h1 ▸ hx, eqL_eq _ h3⟩
theorem mem_rangeL : (k : Int) ∈ rangeL k1 r 1 ↔ k1 ≤ k ∧ k < r := by
 have hn : rangeN k1 r 1 = r - k1 := by
  unfold rangeN Builtin.Range.rangeSize
  rw [if_pos (by decide)]
  split
  ·rw [Int.ediv_one, Int.sub_add_cancel]; exact Int.toNat_sub _ _
  ·rename_i h
   exact (Nat.sub_eq_zero_of_le (Int.ofNat_le.mp (Int.not_lt.mp h))).symm
 unfold rangeL
 rw [hn, List.mem_map]
 refine ⟨fun ⟨i, hi, e⟩ => ?_, fun h => ⟨k - k1, List.mem_range.mpr (Nat.sub_lt_sub_right h.1 h.2), ?_⟩⟩
 ·rw [Int.mul_one] at e
  obtain rfl : k1 + i = k := Int.ofNat_inj.mp e
  exact ⟨Nat.le_add_right _ _, Nat.add_lt_of_lt_sub' (List.mem_range.mp hi)⟩
 ·rw [Int.mul_one]
  exact Int.ofNat_inj.mpr (Nat.add_sub_cancel' h.1)
theorem mem_insI {x y : Int} (l : List Int) : y ∈ insI x l ↔ y = x ∨ y ∈ l := by
 induction l with
 | nil => exact List.mem_cons
 | cons a r ih =>
  show y ∈ cond (leI x a) (x :: a :: r) (a :: insI x r) ↔ _
  cases leI x a with
  | true => exact List.mem_cons
  | false =>
   show y ∈ a :: insI x r ↔ _
   rw [List.mem_cons, ih, List.mem_cons]
   exact or_left_comm
theorem mem_sortI {y : Int} (l : List Int) : y ∈ sortI l ↔ y ∈ l := by
 induction l with
 | nil => exact Iff.rfl
 | cons a r ih =>
  show y ∈ insI a (sortI r) ↔ _
  rw [mem_insI, ih, List.mem_cons]
theorem len_insI (x : Int) (l : List Int) : (insI x l).length = l.length + 1 := by
 induction l with
 | nil => rfl
 | cons a r ih =>
  show (cond (leI x a) (x :: a :: r) (a :: insI x r)).length = _
  cases leI x a with
  | true => rfl
  | false => exact congrArg Nat.succ ih
theorem len_sortI (l : List Int) : (sortI l).length = l.length := by
 induction l with
 | nil => rfl
 | cons a r ih => exact (len_insI _ _).trans (congrArg Nat.succ ih)
theorem preI_at (h : nth rows k = some x) : preI rows q (k : Int) = q x.2 := by
 show onB (nth rows (Int.toNat k)) _ = _
 rw [Int.toNat_natCast, h]; rfl
theorem in_filt (hx : nth rows k = some x) (hk : k < z) : q x.2 = true ↔ (k : Int) ∈ (rangeL 0 z 1).filter (preI rows q) := by
 rw [List.mem_filter, preI_at hx]
 have : (k : Int) ∈ rangeL ((0 : Nat) : Int) z 1 := mem_rangeL.mpr ⟨Nat.zero_le _, hk⟩
 exact ⟨fun h => ⟨this, h⟩, fun h => h.2⟩
theorem both_eq (h1 : (rangeL 0 z 1).filter (preI rows fun x => pre f x) = rangeL k1 r 1) (h2 : (rangeL 0 z 1).filter (preI rows fun x => pre e.reverse x.reverse) = sortI arc)
  (hx : nth rows k = some x) (hk : k < z) (hf : noDot f = true) (he : noDot e = true) (sf : f.length < 1000) (se : e.length < 1000) (sx : x.2.length < 1000) : ellO ((f ++ [46, 46, 46]) ++ e) x.2 = some (bothM k k1 r arc f e x.2) := by
 have a1 : pre f x.2 = (leI k1 k && ltI k r) := by
  rw [Bool.eq_iff_iff, in_filt (q := fun x => pre f x) hx hk, h1, mem_rangeL, leI_nat, ltI_nat, Bool.and_eq_true, Nat.ble_eq, Nat.blt_eq]
 have a2 : pre e.reverse x.2.reverse = arc.any (eqI k) := by
  rw [Bool.eq_iff_iff, in_filt (q := fun x => pre e.reverse x.reverse) hx hk, h2, mem_sortI, List.any_eq_true]
  exact ⟨fun h => ⟨_, h, eqI_self _⟩, fun ⟨y, hy, e⟩ => (W.Z.eqB_iff _ _).mp e ▸ hy⟩
 rw [ell_two hf he sf se sx, a1, a2, ← leI_nat]; rfl
end
structure Ck (d : Dat) : Prop where
 z : d.size = 8 ∨ d.size = 16
 rl : d.rows.length = d.size
 gl : d.ring.length = d.size
 gb : ∀ k ∈ d.ring, k < d.size
 rb : ∀ x ∈ d.rows, x.1.length < 50 ∧ x.2.length < 50 ∧ noDot x.2 = true
 cut : allK d.rows (fun _ x => ckCut d.rows x.2) = true
 front : allK d.rows (fun k x => ckFront d.rows d.size k x.2) = true
 end_ : allK d.rows (fun k x => ckEnd d.rows d.ring d.size k x.2) = true
 one : allK d.rows (fun k x => ckOne d.rows k x) = true
 other : allK d.rows (fun k x => ckOther d.rows x) = true
theorem z_or {z : Nat} (h : (Nat.beq z 8 || Nat.beq z 16) = true) : z = 8 ∨ z = 16 := (Bool.or_eq_true_iff.mp h).imp Nat.eq_of_beq_eq_true Nat.eq_of_beq_eq_true
theorem ck_dats {d : Dat} (h : d ∈ dats) : Ck d := by
 obtain ⟨m1, hm⟩ := and_all (List.all_eq_true.mp t_misc d h)
 obtain ⟨m2, hm⟩ := and_all hm
 obtain ⟨m3, hm⟩ := and_all hm
 obtain ⟨m4, m5⟩ := and_all hm
 refine ⟨z_or m1, Nat.eq_of_beq_eq_true m2, Nat.eq_of_beq_eq_true m3, fun k hk => Nat.le_of_ble_eq_true (List.all_eq_true.mp m4 k hk), fun x hx => ?_, List.all_eq_true.mp t_cut d h, List.all_eq_true.mp t_front d h, List.all_eq_true.mp t_end d h, List.all_eq_true.mp t_one d h, List.all_eq_true.mp t_other d h⟩
 obtain ⟨a, this⟩ := and_all (List.all_eq_true.mp m5 x hx)
 exact ⟨Nat.le_of_ble_eq_true a, (and_all this).imp Nat.le_of_ble_eq_true id⟩
theorem Kno.nil {lo : Lo} : Kno [] lo := fun _ _ e => nomatch e
theorem Kno.cons {t lo : Lo} {k : Nat} {v : AV} (e : lkp k lo = some v) (h : Kno t lo) : Kno ((k, v) :: t) lo := fun j w q => by
 rw [lkp_c] at q
 cases b : Nat.beq k j with
 | true => rw [b] at q; rw [← Nat.eq_of_beq_eq_true b, e]; exact q
 | false => rw [b] at q; exact h j w q
noncomputable def ixB (lo hi st : Option Int) : Bool := (List.range 60).all fun n => Nat.blt (sliceIx n lo hi st).length 60
theorem sliceS_len {s : List Nat} {lo hi st : Option Int} (e : ixB lo hi st = true) (h1 : s.length < 60) : (sliceS s lo hi st).length < 60 := by
 unfold sliceS
 cases eqI (st.getD 1) 1 && Nat.beq (sliceIx s.length lo hi st).length s.length with
 | true => exact h1
 | false => exact Nat.lt_of_le_of_lt (List.length_filterMap_le (nth s) _) (Nat.le_of_ble_eq_true (List.all_eq_true.mp e s.length (List.mem_range.mpr h1)))
theorem want2_len (l : List Nat) : (want2 l).length ≤ 4 * l.length := by
 induction l with
 | nil => exact Nat.le_refl _
 | cons a r ih =>
  cases r with
  | nil => show 1 ≤ 4; decide
  | cons b r =>
   show ([a] ++ ([46, 46, 46] ++ want2 (b :: r))).length ≤ 4 * (r.length + 1 + 1)
   rw [List.length_append, List.length_append]
   show 1 + (3 + (want2 (b :: r)).length) ≤ 4 * (r.length + 1 + 1)
   have ih : (want2 (b :: r)).length ≤ 4 * (r.length + 1) := ih
   omega
theorem fmod_lt (c : Int) {z : Nat} (hz : 0 < z) : ∃ o : Nat, o < z ∧ Int.fmod c z = o := by
 have h0 : (0 : Int) < z := Int.ofNat_lt.mpr hz
 rw [Int.fmod_eq_emod_of_nonneg c (Int.le_of_lt h0)]
 obtain ⟨o, e⟩ := Int.eq_ofNat_of_zero_le (Int.emod_nonneg c (Int.ne_of_gt h0))
 exact ⟨o, Int.ofNat_lt.mp (e ▸ Int.emod_lt_of_pos c h0), e⟩
theorem cell_set {H : St} {v : AV} {i : Nat} (h : ∃ w, nth H i = some (.cell w)) : getCell (setN (.cell (some v)) H i) i = some v := h.elim fun w e => cell_at.mpr (by rw [nth_setN i e i, Nat.beq_refl]; rfl)
structure Sel (rows : Rows) (ring : List Nat) (z o1 o2 f e k1 k2 k3 r r2 r3 : Nat) (F E : List Nat) (x1 x2 : List Int × List Nat) : Prop where
 hz : z = 8 ∨ z = 16
 hrl : rows.length = z
 hgl : ring.length = z
 hgb : ∀ k ∈ ring, k < rows.length
 hrb : ∀ x ∈ rows, x.1.length < 50 ∧ x.2.length < 50 ∧ noDot x.2 = true
 hx1 : nth rows o1 = some x1
 hx2 : nth rows o2 = some x2
 hF : sliceS x1.2 none (some (f : Int)) none = F
 hE : sliceS x2.2 (some (e : Int)) none none = E
 hf : f < 60
 he : e < 60
 i1 : numAt rows F = some k1
 i2 : numAt rows E = some k2
 i3 : findIx (fun x => eqI x k2) (ring.map fun (k : Nat) => (k : Int)) 0 = some k3
 hk1 : k1 < 20
 hk3 : k3 < 1000
 lF : F.length < 50 ∧ noDot F = true
 lE : E.length < 50 ∧ noDot E = true
 b1 : bisL true (rows.map fun x => !pre F x.2) 100 k1 z = some r
 b2 : bisL true (ring.map (preN rows fun x => pre E.reverse x.reverse)) 100 0 k3 = some r2
 b3 : bisR false (ring.map (preN rows fun x => !pre E.reverse x.reverse)) 100 k3 z = some r3
 hr : r < 1000
 hr2 : r2 < 1000
 hr3 : r3 < 1000
 q1 : (rangeL 0 z 1).filter (preI rows fun x => pre F x) = rangeL k1 r 1
 q2 : (rangeL 0 z 1).filter (preI rows fun x => pre E.reverse x.reverse) = sortI (sliceL (ring.map fun (k : Nat) => (k : Int)) (some (r2 : Int)) (some (r3 : Int)) none)
 one : ckOne rows o1 x1 = true
 oth : ckOther rows x2 = true
noncomputable def RTr (o : Option (RF × Lo × St)) : Prop := ∃ lo H, o = some (.rt (.bool true), lo, H)
theorem RTr.st {L : Lvl} {a : S} {rest : List S} {lo lo1 : Lo} {ce : Ce} {b : Nat} {H H1 : St} (e : exS L [a] lo ce b H = some (.nx, lo1, H1)) (h : RTr (exS L rest lo1 ce b H1)) : RTr (exS L (a :: rest) lo ce b H) := by
 rw [show a :: rest = [a] ++ rest from rfl, exS_app e]; exact h
section
variable {rows : Rows} {ring : List Nat} {worths : List Int} {z o1 o2 f e k1 k2 k3 r r2 r3 n n0 : Nat} {F E : List Nat} {x1 x2 : List Int × List Nat} {c0 c1 c2 c3 : Int} {lo : Lo} {H : St} (S : Sel rows ring z o1 o2 f e k1 k2 k3 r r2 r3 F E x1 x2)
noncomputable def arcD (ring : List Nat) (r2 r3 : Nat) : List Int := sliceL (ring.map fun (k : Nat) => (k : Int)) (some (r2 : Int)) (some (r3 : Int)) none
noncomputable def mkD (ring : List Nat) (o1 o2 k1 r r2 r3 : Nat) (F E : List Nat) (x1 x2 : List Int × List Nat) (ia iw : Nat) : Draw := { o1 := o1, o2 := o2, k1 := k1, r := r, f := F, e := E, t := sliceS x2.2 none none (some (-1)), arc := arcD ring r2 r3, ia := ia, iw := iw, x1 := x1, x2 := x2 }
include S
theorem Sel.hs : smallL rows = true := small_1k (by have := S.hrl; have := S.hz; omega)
theorem Sel.b16 : z ≤ 16 := by rcases S.hz with h | h <;> rw [h] <;> decide
theorem Sel.arc : (arcD ring r2 r3).length < 64 := by
 rw [← len_sortI, arcD, ← S.q2]
 exact Nat.lt_of_le_of_lt (List.length_filter_le _ _) (Nat.lt_of_le_of_lt (by rw [rng_len S.hz]; exact S.b16) (by decide))
theorem Sel.t : (sliceS x2.2 none none (some (-1))).length < 60 := sliceS_len (by decide +kernel) (Nat.lt_of_lt_of_le (S.hrb _ (nth_mem S.hx2)).2.1 (by decide))
theorem Sel.ok (ia iw : Nat) : DOk rows (mkD ring o1 o2 k1 r r2 r3 F E x1 x2 ia iw) := by
 have one := S.one
 have oth := S.oth
 unfold ckOne at one
 unfold ckOther at oth
 rw [forceL_eq] at one
 rw [forceL_eq, forceL_eq, forceL_eq, forceL_eq] at oth
 have w : ∀ {n}, n < 50 → n < 1000 := fun h => Nat.lt_of_lt_of_le h (by decide)
 have a1 := S.hrb _ (nth_mem S.hx1)
 have a2 := S.hrb _ (nth_mem S.hx2)
 refine ⟨S.hs, S.hx1, S.hx2, Nat.lt_of_lt_of_le a1.1 (by decide), Nat.lt_of_lt_of_le a2.1 (by decide), w a1.2.1, w S.lF.1, w S.lE.1, small_64 (Nat.lt_of_lt_of_le (sliceS_len (by decide +kernel) S.t) (by decide)), small_64 S.arc, fun k xk hk => ?_⟩
 obtain ⟨n1, n2, n3⟩ := S.hrb _ (nth_mem hk)
 obtain ⟨p1, p3⟩ := and_all (allK_at one hk)
 obtain ⟨p2, p4⟩ := and_all (allK_at oth hk)
 have n4 : xk.2.length < 60 := Nat.lt_of_lt_of_le n2 (by decide)
 exact ⟨⟨both_eq S.q1 S.q2 hk (S.hrl ▸ nth_lt hk) S.lF.2 S.lE.2 (w S.lF.1) (w S.lE.1) (w n2), someB_eq p1, someB_eq p3, someB_eq p2, someB_eq p4, trivial⟩, small_64 (Nat.lt_of_lt_of_le (sliceS_len (by decide +kernel) n4) (by decide)), small_64 (Nat.lt_of_lt_of_le (sliceS_len (by decide +kernel) n4) (by decide)), Nat.lt_of_lt_of_le n1 (by decide), w n2⟩
omit S
noncomputable def Fig (rows : Rows) (ring : List Nat) (worths : List Int) (c0 c1 c2 c3 : Int) (z n n0 : Nat) : Prop := ∀ (o : Nat) x K, nth rows o = some x → Sfx c0 c1 c2 c3 rows (ring.map fun (k : Nat) => (k : Int)) worths K → K.length = n0 + 10 + 3 * z → (lvlO (n+9)).cl 18 [.int o, .ref 10] [] 0 K = some (.tup [.tup (x.1.map .int), .int 0], K)
theorem getLst_at3 {a b c : AO} {xs : List AV} : getLst (H ++ [a] ++ [b] ++ [c] ++ [.lst xs]) (H.length + 3) = some xs := by
 have := getLst_last (H ++ [a] ++ [b] ++ [c]) xs
 rw [List.length_append, List.length_append, List.length_append] at this
 exact this
include S
theorem from_26 {ia : Nat} (l : Kno [(141, .str (sliceS x2.2 none none (some (-1)))), (140, .ref ia), (132, .int o1), (133, .int o2), (79, .int k1), (137, .int r)] lo) (s : Sfx c0 c1 c2 c3 rows (ring.map fun (k : Nat) => (k : Int)) worths H) (hfig : Fig rows ring worths c0 c1 c2 c3 z n n0)
  (cE : getCell H 2 = some (.str E)) (cF : getCell H 3 = some (.str F)) (cA : getLst H ia = some ((arcD ring r2 r3).map .int)) (a1 : Nat.beq 1 ia = false) (len : H.length = n0 + 6) : RTr (exS (lvlO (n+12)) (b20.drop 26) lo ceL 0 H) := by
 have D := S.ok ia (H.length + 3)
 have w : ∀ {l : List Nat}, l.length < 60 → smallL (want2 l) = true := fun {l} h => small_1k (Nat.lt_of_le_of_lt (want2_len l) (Nat.lt_of_lt_of_le (Nat.mul_lt_mul_of_pos_left h (by decide)) (by decide)))
 have b1 := (S.hrb _ (nth_mem S.hx1)).2.1
 have b2 := (S.hrb _ (nth_mem S.hx2)).2.1
 have k : ∀ {n}, n < 60 → n < 1000 := fun h => Nat.lt_of_lt_of_le h (by decide)
 have e26 := e_26 (n := n) s (l 132 _ rfl) (l 133 _ rfl) (l 141 _ rfl) S.hs S.hx1 S.hx2 cF cE D.l1 (k (Nat.lt_of_lt_of_le b2 (by decide))) D.f D.e (k S.t) (w (Nat.lt_of_lt_of_le b1 (by decide))) (w (Nat.lt_of_lt_of_le b2 (by decide))) (w S.t) (small_1k (by
  rw [List.length_append]
  have := want2_len (sliceS x2.2 none none (some (-1)))
  have := S.t
  show 3 + _ < _
  omega))
 have l7 := l.set (k := 142) (v := .ref (H.length + 3))
 refine RTr.st (a := Zt55) (rest := [Zt56, Zt57]) e26 ?_
 have lD : Kno (tblD (mkD ring o1 o2 k1 r r2 r3 F E x1 x2 ia (H.length + 3))) (setL 142 (.ref (H.length + 3)) lo) := .cons (l7 132 _ rfl) (.cons (l7 133 _ rfl) (.cons (l7 79 _ rfl) (.cons (l7 137 _ rfl) (.cons (l7 140 _ rfl) (.cons (l7 141 _ rfl) (.cons (l7 142 _ rfl) .nil))))))
 obtain ⟨lo9, H9, e27, i⟩ := e_27 (n := n) (d := mkD ring o1 o2 k1 r r2 r3 F E x1 x2 ia (H.length + 3)) D (by have := S.hrl; have := S.b16; omega)
  ⟨(((s.app [_]).app [_]).app [_]).app [.lst ((mkD ring o1 o2 k1 r r2 r3 F E x1 x2 ia (H.length + 3)).wants.map .str)], getCell_app (getCell_app (getCell_app (getCell_app cF))), getCell_app (getCell_app (getCell_app (getCell_app cE))), getLst_app (getLst_app (getLst_app (getLst_app cA))), getLst_at3, a1, rfl⟩ lD
 refine RTr.st (a := Zt56) (rest := [Zt57]) e27 ⟨_, _, e_28 (n := n) D i.h i.l (hfig o1 x1 H9 S.hx1 i.h.s ?_) (hfig o2 x2 H9 S.hx2 i.h.s ?_)⟩
 all_goals rw [i.n, List.length_append, List.length_append, List.length_append, List.length_append, len, S.hrl]; rfl
theorem from_23 (l : Kno [(139, .int r3), (138, .int r2), (137, .int r), (79, .int k1), (136, .int k3), (132, .int o1), (133, .int o2), (116, .ref 7), (83, .int z), (131, .ref 19)] lo) (s : Sfx c0 c1 c2 c3 rows (ring.map fun (k : Nat) => (k : Int)) worths H) (hfig : Fig rows ring worths c0 c1 c2 c3 z n n0)
  (cE : getCell H 2 = some (.str E)) (cF : getCell H 3 = some (.str F)) (len : H.length = n0 + 3) : RTr (exS (lvlO (n+12)) (b20.drop 23) lo ceL 0 H) := by
 refine RTr.st (a := Zt52) (rest := b20.drop 24) (e_23 (n := n) s (small_1k (by have := S.b16; have := S.hgl; rw [List.length_map]; omega)) (l 131 _ rfl) (l 138 _ rfl) (l 139 _ rfl) S.hr2 S.hr3) ?_
 have l2 := l.set (k := 140) (v := .ref H.length)
 have cA : getLst (H ++ [.lst ((arcD ring r2 r3).map .int)]) H.length = some ((arcD ring r2 r3).map .int) := getLst_last _ _
 refine RTr.st (a := Zt53) (rest := b20.drop 25) (e_24 (n := n) (s.app _) S.hz S.hrl (l2 83 _ rfl) (l2 140 _ rfl) cA S.arc (getCell_app cE) S.q2) ?_
 refine RTr.st (a := Zt54) (rest := b20.drop 26) (e_25 (n := n) (((s.app _).app _).app _) (l2 133 _ rfl) S.hs S.hx2 (small_64 (Nat.lt_of_lt_of_le S.t (by decide)))) ?_
 have l3 := l2.set (k := 141) (v := .str (sliceS x2.2 none none (some (-1))))
 refine from_26 S (ia := H.length) (.cons (l3 141 _ rfl) (.cons (l3 140 _ rfl) (.cons (l3 132 _ rfl) (.cons (l3 133 _ rfl) (.cons (l3 79 _ rfl) (.cons (l3 137 _ rfl) .nil)))))) (((s.app _).app _).app _) hfig (getCell_app (getCell_app (getCell_app cE))) (getCell_app (getCell_app (getCell_app cF))) (getLst_app (getLst_app cA)) (by rw [len]; rfl) ?_
 rw [List.length_append, List.length_append, List.length_append, len]; rfl
theorem from_19 (l : Kno [(79, .int k1), (136, .int k3), (132, .int o1), (133, .int o2), (116, .ref 7), (83, .int z), (131, .ref 19)] lo) (s : Sfx c0 c1 c2 c3 rows (ring.map fun (k : Nat) => (k : Int)) worths H) (hfig : Fig rows ring worths c0 c1 c2 c3 z n n0)
  (cE : getCell H 2 = some (.str E)) (cF : getCell H 3 = some (.str F)) (len : H.length = n0) : RTr (exS (lvlO (n+12)) (b20.drop 19) lo ceL 0 H) := by
 have w : ∀ {n}, n < 50 → n < 1000 := fun h => Nat.lt_of_lt_of_le h (by decide)
 have sx : ∀ x ∈ rows, x.2.length < 1000 := fun x hx => w (S.hrb x hx).2.1
 have rl : ring.length < 1000 := by have := S.b16; have := S.hgl; omega
 have hk1 : k1 < 1000 := Nat.lt_of_lt_of_le S.hk1 (by decide)
 refine RTr.st (a := Zt48) (rest := b20.drop 20) (e_19 (n := n) s S.hz S.hrl (l 83 _ rfl) (l 79 _ rfl) hk1 cF S.lF.2 (w S.lF.1) sx S.b1) ?_
 have l2 := l.set (k := 137) (v := .int r)
 have cE2 : getCell (H ++ [.lst ((rangeL 0 z 1).map .int)]) 2 = some (.str E) := getCell_app cE
 refine RTr.st (a := Zt49) (rest := b20.drop 21) (e_20 (n := n) (s.app _) S.hs rl S.hgb (l2 131 _ rfl) (l2 136 _ rfl) S.hk3 cE2 S.lE.2 (w S.lE.1) sx S.b2) ?_
 have l3 := l2.set (k := 138) (v := .int r2)
 refine RTr.st (a := Zt50) (rest := b20.drop 22) (e_21 (n := n) (s.app _) S.hs rl S.hgb (l3 131 _ rfl) (l3 83 _ rfl) (by have := S.b16; omega) (l3 136 _ rfl) S.hk3 cE2 S.lE.2 (w S.lE.1) sx S.b3) ?_
 have l4 := l3.set (k := 139) (v := .int r3)
 refine RTr.st (a := Zt51) (rest := b20.drop 23) (e_22 (n := n) (s.app _) S.hz S.hrl (l4 83 _ rfl) (l4 79 _ rfl) (l4 137 _ rfl) hk1 S.hr (getCell_app cF) S.q1) ?_
 refine from_23 S l4 (((s.app _).app _).app _) hfig (getCell_app (getCell_app cE2)) (getCell_app (getCell_app (getCell_app cF))) ?_
 rw [List.length_append, List.length_append, List.length_append, len]; rfl
theorem from_15 (l : Kno [(116, .ref 7), (83, .int z), (131, .ref 19)] lo) (s : Sfx c0 c1 c2 c3 rows (ring.map fun (k : Nat) => (k : Int)) worths H) (hfig : Fig rows ring worths c0 c1 c2 c3 z n H.length) (m2 : smallI c2 = true) (m3 : smallI c3 = true)
  (q1 : Int.fmod c2 z = o1) (q2 : Int.fmod c3 z = o2) (q3 : Int.fmod (Int.fdiv c2 16) ((x1.2.length : Int) + 1) = f) (q4 : Int.fmod (Int.fdiv c3 16) ((x2.2.length : Int) + 1) = e) : RTr (exS (lvlO (n+12)) (b20.drop 15) lo ceL 0 H) := by
 have w : ∀ {n}, n < 50 → n < 1000 := fun h => Nat.lt_of_lt_of_le h (by decide)
 have w2 : ∀ {n}, n < 60 → n < 1000 := fun h => Nat.lt_of_lt_of_le h (by decide)
 refine RTr.st (a := Zt44) (rest := b20.drop 16) (e_15 (n := n) s (l 116 _ rfl) (l 83 _ rfl) (by rcases S.hz with h | h <;> rw [h] <;> rfl) q1 q2) ?_
 have l1 := (l.set (k := 133) (v := .int o2)).set (k := 132) (v := .int o1)
 have hn1 : nth (rows.map fun x => x.2) o1 = some x1.2 := by rw [nth_map, S.hx1]; rfl
 have hn2 : nth (rows.map fun x => x.2) o2 = some x2.2 := by rw [nth_map, S.hx2]; rfl
 have e16 := e_16 (n := n) s (l1 116 _ rfl) (l1 132 _ rfl) S.hs hn1 m2 (w (S.hrb _ (nth_mem S.hx1)).2.1) q3 (w2 S.hf) (by rw [S.hF]; exact small_1k (Nat.lt_of_lt_of_le S.lF.1 (by decide)))
 rw [S.hF] at e16
 refine RTr.st (a := Zt45) (rest := b20.drop 17) e16 ?_
 have s1 := s.set 3 rfl (some (.str F))
 have cF := cell_set (v := .str F) (s.k 3 rfl)
 have e17 := e_17 (n := n) s1 (l1 116 _ rfl) (l1 133 _ rfl) S.hs hn2 m3 (w (S.hrb _ (nth_mem S.hx2)).2.1) q4 (w2 S.he) (by rw [S.hE]; exact small_1k (Nat.lt_of_lt_of_le S.lE.1 (by decide)))
 rw [S.hE] at e17
 refine RTr.st (a := Zt46) (rest := b20.drop 18) e17 ?_
 have s2 := s1.set 2 rfl (some (.str E))
 have cE := cell_set (v := .str E) (s1.k 2 rfl)
 have cF2 : getCell (setN (.cell (some (.str E))) (setN (.cell (some (.str F))) H 3) 2) 3 = some (.str F) := cell_at.mpr (nth_setN 3 (cell_at.mp cF) 2)
 refine RTr.st (a := Zt47) (rest := b20.drop 19) (e_18 (n := n) s2 (l1 131 _ rfl) cF2 cE S.hs (small_1k (by have := S.b16; have := S.hgl; rw [List.length_map]; omega)) S.i1 S.i2 S.i3) ?_
 exact from_19 S ((l1.set (k := 136) (v := .int k3)).set (k := 79) (v := .int k1)) s2 hfig cE cF2 (by rw [setN_len, setN_len])
end
theorem suffix {dt : Dat} (C : Ck dt) {c0 c1 c2 c3 : Int} {n : Nat} {lo : Lo} {H : St} (s : Sfx c0 c1 c2 c3 dt.rows (dt.ring.map fun (k : Nat) => (k : Int)) dt.worths H) (l : Kno [(116, .ref 7), (83, .int dt.size), (131, .ref 19)] lo) (m2 : smallI c2 = true) (m3 : smallI c3 = true)
  (hfig : Fig dt.rows dt.ring dt.worths c0 c1 c2 c3 dt.size n H.length) : RTr (exS (lvlO (n+12)) (b20.drop 15) lo ceL 0 H) := by
 have zp : 0 < dt.size := by rcases C.z with h | h <;> rw [h] <;> decide
 have z16 : dt.size ≤ 16 := by rcases C.z with h | h <;> rw [h] <;> decide
 obtain ⟨o1, ho1, q1⟩ := fmod_lt c2 zp
 obtain ⟨o2, ho2, q2⟩ := fmod_lt c3 zp
 obtain ⟨x1, hx1⟩ := nth_ok (C.rl.symm ▸ ho1)
 obtain ⟨x2, hx2⟩ := nth_ok (C.rl.symm ▸ ho2)
 obtain ⟨f, hf, q3⟩ := fmod_lt (Int.fdiv c2 16) (Nat.succ_pos x1.2.length)
 obtain ⟨e, he, q4⟩ := fmod_lt (Int.fdiv c3 16) (Nat.succ_pos x2.2.length)
 have b1 := (C.rb x1 (nth_mem hx1)).2.1
 have b2 := (C.rb x2 (nth_mem hx2)).2.1
 have cut1 := (and_all (List.all_eq_true.mp (allK_at C.cut hx1) f (List.mem_range.mpr hf))).1
 have cut2 := (and_all (List.all_eq_true.mp (allK_at C.cut hx2) e (List.mem_range.mpr he))).2
 rw [forceL_eq] at cut1 cut2
 obtain ⟨k1, xf, i1, hxf, ef⟩ := cut_row cut1
 obtain ⟨k2, xe, i2, hxe, ee⟩ := cut_row cut2
 obtain ⟨r, hr, fr⟩ := onB_inv (allK_at C.front hxf)
 obtain ⟨k3, i3, en⟩ := onB_inv (allK_at C.end_ hxe)
 obtain ⟨r2, hr2, en⟩ := onB_inv en
 obtain ⟨r3, hr3, en⟩ := onB_inv en
 obtain ⟨fr1, fr2⟩ := and_all fr
 obtain ⟨en1, en⟩ := and_all en
 obtain ⟨en2, en⟩ := and_all en
 obtain ⟨en3, en4⟩ := and_all en
 exact from_15 (x1 := x1) (x2 := x2) ⟨C.z, C.rl, C.gl, fun k hk => C.rl.symm ▸ C.gb k hk, C.rb, hx1, hx2, rfl, rfl, Nat.lt_of_lt_of_le hf (Nat.le_trans b1 (by decide)), Nat.lt_of_lt_of_le he (Nat.le_trans b2 (by decide)), i1, i2, i3, Nat.lt_of_lt_of_le (nth_lt hxf) (C.rl.symm ▸ Nat.le_trans z16 (by decide)), Nat.le_of_ble_eq_true en3,
  ef ▸ (C.rb xf (nth_mem hxf)).2, ee ▸ (C.rb xe (nth_mem hxe)).2, ef ▸ hr, ee ▸ hr2, ee ▸ hr3, Nat.le_of_ble_eq_true fr1, Nat.le_of_ble_eq_true en1, Nat.le_of_ble_eq_true en2, ef ▸ eqLI_eq _ fr2, ee ▸ eqLI_eq _ en4, allK_at C.one hx1, allK_at C.other hx2⟩ l s hfig m2 m3 q1 q2 q3 q4
noncomputable def onAll {α : Type} (P : α → Prop) : List α → Prop
 | [] => True
 | d :: r => P d ∧ onAll P r
theorem all_at {α : Type} {P : α → Prop} {d : α} (l : List α) (h : onAll P l) (m : d ∈ l) : P d := by
 induction l with
 | nil => exact nomatch m
 | cons a r ih =>
  cases m with
  | head => exact h.1
  | tail _ m => exact ih h.2 m
noncomputable def H8 (c : List AV) : St := [.cell none, .cell none, .cell none, .cell none, .cell none, .cell none, .cell none, .lst c]
noncomputable def run13 (d : Dat) (c : List AV) : Option (AV × List Nat × List AO) := obX (exS (lvl fns 40) b13 [(83, .int d.size), (84, .int d.step)] [] 8 (H8 c)) (fun _ _ => none) fun w _ H3 => home 8 H3 w
noncomputable def got13 (d : Dat) : Option (AV × List Nat × List AO) := some (.tup [.ref 8, .ref 9, .str []], [8, 9], [.lst (d.quots.map .int), .lst (d.rests.map .int)])
noncomputable def loC (d : Dat) (S va sh : AV) (t : Lo) : Lo := (73, S) :: (116, .ref 7) :: (118, va) :: (117, sh) :: (83, .int d.size) :: (84, .int d.step) :: t
noncomputable def lo3 (d : Dat) (S va sh : AV) : Lo := loC d S va sh [(85, .ref 8), (86, .ref 9), (119, .str [])]
noncomputable def rngV (z : Nat) : List AV := (List.range z).map fun (k : Nat) => .int k
noncomputable def fltV (l : List Int) : List AV := l.map fun z => .flt (.dy z)
noncomputable def intV (l : List Int) : List AV := l.map .int
noncomputable def HB (d : Dat) (c hs : List AV) : St := [.cell (some (.ref 10)), .cell none, .cell none, .cell none, .cell (some (.ref 15)), .cell (some (.ref 14)), .cell (some (.ref 11)), .lst c, .lst (intV d.quots), .lst (intV d.rests), .lst (intV d.worths), .lst (d.rows.map rowV), .lst (rngV d.size), .lst (rngV d.size), .lst (d.rows.map fun x => .str x.2), .lst hs]
noncomputable def H10 (d : Dat) (c : List AV) : St := H8 c ++ [.lst (intV d.quots), .lst (intV d.rests)]
noncomputable def SegA (d : Dat) : Prop := ∀ (S va sh : AV) (c : List AV), exS (lvlO 30) ((b20.drop 4).take 5) (lo3 d S va sh) ceL 0 (H10 d c) = some (.nx, lo3 d S va sh, HB d c [])
noncomputable def lo9 (d : Dat) (S va sh v76 v103 v123 v124 v125 v127 v126 : AV) (t : Lo) : Lo := loC d S va sh ((85, .ref 8) :: (86, .ref 9) :: (119, .str []) :: (76, v76) :: (103, v103) :: (123, v123) :: (124, v124) :: (125, v125) :: (127, v127) :: (126, v126) :: t)
noncomputable def rngR (l : List Nat) : List AV := l.map fun (k : Nat) => .int k
noncomputable def HC (d : Dat) (c : List AV) : St := HB d c (fltV d.hues) ++ (.lst (intV d.wheel) :: .lst (intV d.s1) :: .lst (intV d.s2) :: .lst (rngR d.ring) :: ((d.keys.map fun k => .lst (intV k)) ++ [.lst (rngR d.ring)]))
noncomputable def SegC (d : Dat) : Prop := ∀ (S va sh v76 v103 v123 v124 v125 v127 v126 : AV) (c : List AV), exS (lvlO 30) ((b20.drop 10).take 5) (lo9 d S va sh v76 v103 v123 v124 v125 v127 v126 []) ceL 0 (HB d c (fltV d.hues)) = some (.nx, lo9 d S va sh (.int (d.size - 1 : Nat)) v103 v123 v124 v125 v127 v126 [(128, .ref 16), (130, .int d.cut), (131, .ref 19)], HC d c)
theorem r13_all : onAll (fun d => ∀ c, run13 d c = got13 d) dats := by
 repeat' (first | exact trivial | refine And.intro (fun c => by kernel_rfl) ?_)
theorem sa0 : SegA d0 := fun _ _ _ _ => by kernel_rfl
theorem sa1 : SegA d1 := fun _ _ _ _ => by kernel_rfl
theorem sa2 : SegA d2 := fun _ _ _ _ => by kernel_rfl
theorem sa3 : SegA d3 := fun _ _ _ _ => by kernel_rfl
theorem sa4 : SegA d4 := fun _ _ _ _ => by kernel_rfl
theorem sa5 : SegA d5 := fun _ _ _ _ => by kernel_rfl
theorem sa6 : SegA d6 := fun _ _ _ _ => by kernel_rfl
theorem sa7 : SegA d7 := fun _ _ _ _ => by kernel_rfl
theorem sa8 : SegA d8 := fun _ _ _ _ => by kernel_rfl
theorem sa9 : SegA d9 := fun _ _ _ _ => by kernel_rfl
theorem sa10 : SegA d10 := fun _ _ _ _ => by kernel_rfl
theorem sa11 : SegA d11 := fun _ _ _ _ => by kernel_rfl
theorem sc0 : SegC d0 := fun _ _ _ _ _ _ _ _ _ _ _ => by kernel_rfl
theorem sc1 : SegC d1 := fun _ _ _ _ _ _ _ _ _ _ _ => by kernel_rfl
theorem sc2 : SegC d2 := fun _ _ _ _ _ _ _ _ _ _ _ => by kernel_rfl
theorem sc3 : SegC d3 := fun _ _ _ _ _ _ _ _ _ _ _ => by kernel_rfl
theorem sc4 : SegC d4 := fun _ _ _ _ _ _ _ _ _ _ _ => by kernel_rfl
theorem sc5 : SegC d5 := fun _ _ _ _ _ _ _ _ _ _ _ => by kernel_rfl
theorem sc6 : SegC d6 := fun _ _ _ _ _ _ _ _ _ _ _ => by kernel_rfl
theorem sc7 : SegC d7 := fun _ _ _ _ _ _ _ _ _ _ _ => by kernel_rfl
theorem sc8 : SegC d8 := fun _ _ _ _ _ _ _ _ _ _ _ => by kernel_rfl
theorem sc9 : SegC d9 := fun _ _ _ _ _ _ _ _ _ _ _ => by kernel_rfl
theorem sc10 : SegC d10 := fun _ _ _ _ _ _ _ _ _ _ _ => by kernel_rfl
theorem sc11 : SegC d11 := fun _ _ _ _ _ _ _ _ _ _ _ => by kernel_rfl
theorem sa_all : onAll SegA dats := ⟨sa0, sa1, sa2, sa3, sa4, sa5, sa6, sa7, sa8, sa9, sa10, sa11, trivial⟩
theorem sc_all : onAll SegC dats := ⟨sc0, sc1, sc2, sc3, sc4, sc5, sc6, sc7, sc8, sc9, sc10, sc11, trivial⟩
noncomputable def kGen (N : Nat) (w : List AV) (g : Nat → AO) : St := (List.range N).map fun i => cond (Nat.beq i 10) (.lst w) (g i)
noncomputable def figP (d : Dat) : Prop := ∀ g, ((List.range d.size).map fun (k : Nat) => (lvlO 27).cl 18 [.int k, .ref 10] [] 0 (kGen (31 + 4 * d.size) (intV d.worths) g)) = d.rows.map fun x => some (.tup [.tup (x.1.map .int), .int 0], kGen (31 + 4 * d.size) (intV d.worths) g)
theorem fg0 : figP d0 := fun _ => by kernel_rfl
theorem fg1 : figP d1 := fun _ => by kernel_rfl
theorem fg2 : figP d2 := fun _ => by kernel_rfl
theorem fg3 : figP d3 := fun _ => by kernel_rfl
theorem fg4 : figP d4 := fun _ => by kernel_rfl
theorem fg5 : figP d5 := fun _ => by kernel_rfl
theorem fg6 : figP d6 := fun _ => by kernel_rfl
theorem fg7 : figP d7 := fun _ => by kernel_rfl
theorem fg8 : figP d8 := fun _ => by kernel_rfl
theorem fg9 : figP d9 := fun _ => by kernel_rfl
theorem fg10 : figP d10 := fun _ => by kernel_rfl
theorem fg11 : figP d11 := fun _ => by kernel_rfl
theorem fig_all : onAll figP dats := ⟨fg0, fg1, fg2, fg3, fg4, fg5, fg6, fg7, fg8, fg9, fg10, fg11, trivial⟩
noncomputable def same (a b : Fl) : Bool := match a, b with
 | .dy a, .dy b => eqI a b && small a
 | _, _ => false
theorem same_eq {a b : Fl} (h : same a b = true) : a = b := by
 cases a with
 | un => exact nomatch h
 | dy x =>
  cases b with
  | un => exact nomatch h
  | dy y => rw [(W.Z.eqB_iff _ _).mp (and_all h).1]
theorem same_fl {a b : Fl} (h : same a b = true) : Fl.eq a a = true := by
 obtain rfl := same_eq h
 cases a with
 | un b => exact nomatch h
 | dy z =>
  obtain ⟨h1, h2⟩ := and_all h
  show (match small z && small z with | true => W.Z.eqB z z | false => _) = true
  rw [h2]; exact h1
noncomputable def ckPaint (hue h s v l : Fl) : Bool := onB (hsvM h s v) fun c => onB (rhsvM c.1 c.2.1 c.2.2) (fun a => same a.1 hue && (same a.2.1 s && same a.2.2 v)) && onB (rhlsM c.1 c.2.1 c.2.2) fun a => same a.1 hue && same a.2.1 l
noncomputable def hueA (h : Fl) : Option (Fl × Int) := ob1 (Fl.trunc (Fl.mul h (.dy 6144))) fun i => gd (small i) <| some (Fl.sub (Fl.mul h (.dy 6144)) (Fl.ofI i), Int.fmod i 6)
theorem hsv_A {h h' s v : Fl} (e : hueA h = hueA h') : hsvM h s v = hsvM h' s v := by
 have q : ∀ h, hsvM h s v = cond (Fl.eq s (.dy 0)) (some (v, v, v)) (ob1 (hueA h) fun p => hsvT v p.1 s p.2) := fun h => by
  unfold hsvM hueA
  cases Fl.trunc (Fl.mul h (.dy 6144)) with
  | none => rfl
  | some i => show cond _ _ (gd (small i) _) = cond _ _ (ob1 (gd (small i) _) _); cases small i <;> rfl
 rw [q, q, e]
noncomputable def ckPal (h hue : Fl) : Prop := ∀ sh va, sh < 8 → va < 8 → ckPaint hue h (Fl.frac false (sh + 1) 8) (Fl.frac false (va + 1) 8) (Fl.frac false ((va + 1) * (16 - (sh + 1))) 128) = true
theorem t_pal : ((List.range 16).all fun j => (List.range 8).all fun sh => (List.range 8).all fun va => ckPaint (.dy (64 * j : Nat)) (.dy (64 * j : Nat)) (Fl.frac false (sh + 1) 8) (Fl.frac false (va + 1) 8) (Fl.frac false ((va + 1) * (16 - (sh + 1))) 128)) = true := by decide +kernel
noncomputable def ckHues (d : Dat) : Bool := (List.range d.size).all fun k => (List.range 16).any fun j => onB (nth d.hues k) fun z => eqI z (64 * j : Nat) && onB (hueA (Fl.frac false (k * d.step) d.size)) fun p => onB (hueA (.dy (64 * j : Nat))) fun q => same p.1 q.1 && eqI p.2 q.2
theorem t_hues : dats.all ckHues = true := by decide +kernel
theorem hue_at {d : Dat} (hd : d ∈ dats) {k : Nat} (hk : k < d.size) : ∃ z, nth d.hues k = some z ∧ ckPal (Fl.frac false (k * d.step) d.size) (.dy z) := by
 obtain ⟨j, hj, h⟩ := List.any_eq_true.mp (List.all_eq_true.mp (List.all_eq_true.mp t_hues d hd) k (List.mem_range.mpr hk))
 obtain ⟨z, hz, h⟩ := onB_inv h
 obtain ⟨h1, h⟩ := and_all h
 obtain ⟨p, e1, h⟩ := onB_inv h
 obtain ⟨q, e2, h⟩ := onB_inv h
 obtain ⟨h2, h3⟩ := and_all h
 obtain rfl := (W.Z.eqB_iff _ _).mp h1
 refine ⟨_, hz, fun sh va hs hv => ?_⟩
 unfold ckPaint
 rw [hsv_A (e1.trans ((congrArg some (Prod.ext (same_eq h2) ((W.Z.eqB_iff _ _).mp h3))).trans e2.symm))]
 exact List.all_eq_true.mp (List.all_eq_true.mp (List.all_eq_true.mp t_pal j hj) sh (List.mem_range.mpr hs)) va (List.mem_range.mpr hv)
noncomputable def sumM (d : Dat) (row : List Int) : Int := (List.zipWith (fun a b => a * b) row (sliceL d.rests (some (-2)) (some 0) (some (-1)))).sum
noncomputable def ckSum (d : Dat) : Bool := Nat.beq d.hues.length d.rows.length && ((d.rows.zip d.hues).all fun x => smallI (Int.fmod (sumM d x.1.1) d.size) && (leI 0 (Int.fmod (sumM d x.1.1) d.size) && same (Fl.frac false (Int.fmod (sumM d x.1.1) d.size).natAbs d.size) (.dy x.2)))
theorem t_sum : dats.all ckSum = true := by decide +kernel
noncomputable def sumP (d : Dat) : Prop := ∀ c hs, (d.rows.map fun x => ((lvlO 25).cl 16 [.tup (x.1.map .int), .ref 9] [] 0 (HB d c hs), (lvlO 26).cl 5 [.int (sumM d x.1), .int d.size] [] 0 (HB d c hs))) = d.rows.map fun x => (some (.int (sumM d x.1), HB d c hs), some (.tup [.int (Int.fdiv (sumM d x.1) d.size), .int (Int.fmod (sumM d x.1) d.size)], HB d c hs))
theorem sp_all : onAll sumP dats := by
 repeat' (first | exact trivial | refine And.intro (fun c hs => by kernel_rfl) ?_)
noncomputable def loT (d : Dat) (S : AV) (va sh : Nat) (t : Lo) : Lo := loC d S (.int va) (.int sh) ((85, .ref 8) :: (86, .ref 9) :: (119, .str []) :: t)
noncomputable def tail9 (t : Lo) (k : Nat) (x : List Int × List Nat) (c h : Fl × Fl × Fl) : Lo := setL 126 (tupF h) (setL 127 (.flt h.1) (setL 125 (.flt c.2.2) (setL 124 (.flt c.2.1) (setL 123 (.flt c.1) (setL 103 (rowV x) (setL 76 (.int k) t))))))
theorem mulN {a b : Nat} {H : St} (ha : a < 1000000) (hb : b < 1000000) : binM .Mult (.int a) (.int b) H = some (.int ((a * b : Nat) : Int), H) := by
 show alt (gd (smallI a && smallI b) _) _ = _
 rw [smallI_nat ha, smallI_nat hb]; rfl
theorem divN {a b : Nat} {H : St} (ha : a < 1000000) (hb : 0 < b) : binM .Div (.int a) (.int b) H = some (.flt (Fl.frac false a b), H) := by
 show alt (gd (!eqI b 0 && smallI a) (some (AV.flt (Fl.frac (ltI a 0 != ltI b 0) _ _), H))) _ = _
 rw [smallI_nat ha, ltI_cast, ltI_cast, show eqI (b : Int) 0 = false from Bool.eq_false_iff.mpr fun q => absurd (Int.ofNat_inj.mp ((W.Z.eqB_iff _ _).mp q)) (Nat.ne_of_gt hb)]; rfl
theorem cl_o {n f : Nat} {vs : List AV} {v : AV} {b : Nat} {H : St} (h1 : isO f = true) (h : orc f vs = some v) : (lvlO (n+1)).cl f vs [] b H = some (v, H) := by
 show cond (isO f) (ob1 (orc f vs) _) _ = _
 rw [h1, h]; rfl
section
variable {H H1 : St} {j b : Nat} {xs es : List AV} {v : AV} {L : Lvl} {lo : Lo} {ce : Ce} {cl : Nat → List AV → List (Nat × AV) → Nat → St → Option (AV × St)} {x y o : X} {p ap cp : Pos} {m : MF} {as : List X} {a a2 b2 c2 d d2 : Fl}
theorem t_or2 (h1 : L.tv x lo ce b H = some (false, H)) (h2 : L.tv y lo ce b H = some (false, H)) : (up cl L).tv (.bop .Or [x, y] p) lo ce b H = some (false, H) := by
 show ob2 (L.tv x lo ce b H) _ = _
 rw [h1]; show ob2 (L.tv y lo ce b H) _ = _; rw [h2]; rfl
theorem x_expm (e : L.ev (.mcall m o as ap cp) lo ce b H = some (.none, H1)) : ex1 L (.expm m o as ap cp p) lo ce b H = some (.nx, lo, H1) := by
 show ob2 (L.ev (.mcall m o as ap cp) lo ce b H) _ = _
 rw [e]; rfl
theorem m_app (g : getLst H j = some xs) (h1 : Nat.ble b j = true) (h2 : smallL xs = true) : mfM .append (.ref j) [v] b H = some (.none, setN (.lst (xs ++ [v])) H j) := by
 show ob1 (getLst H j) (fun xs => gd (Nat.ble b j && smallL xs) (some (AV.none, setN (.lst (xs ++ [v])) H j))) = _
 rw [g]; show gd (Nat.ble b j && smallL xs) _ = _; rw [h1, h2]; rfl
theorem eq_F (h : Fl.eq a a2 = true) : eq1 (.flt a) (.flt a2) = some true := by
 show alt (gd (Fl.eq a a2) _) _ = _
 rw [h]; rfl
theorem eq_F2 (h : Fl.eq a a2 = true) (h2 : Fl.eq d d2 = true) : eqs eq1 [.flt a, .flt d] [.flt a2, .flt d2] = some true := by
 show ob1 (eq1 (.flt a) (.flt a2)) (fun p => ob1 (ob1 (eq1 (.flt d) (.flt d2)) _) _) = _
 rw [eq_F h, eq_F h2]; rfl
theorem eq_F3 (h : Fl.eq a a2 = true) (h2 : Fl.eq d d2 = true) (h3 : Fl.eq b2 c2 = true) : eqs eq1 [.flt a, .flt d, .flt b2] [.flt a2, .flt d2, .flt c2] = some true := by
 show ob1 (eq1 (.flt a) (.flt a2)) (fun p => ob1 (eqs eq1 [.flt d, .flt b2] [.flt d2, .flt c2]) _) = _
 rw [eq_F h, eq_F2 h2 h3]; rfl
theorem eqM_T {xs ys : List AV} (h : (smallL xs && smallL ys && Nat.beq xs.length ys.length) = true) (e : eqs eq1 xs ys = some true) : eqM (.tup xs) (.tup ys) H = some true := by
 show alt (gd (smallL xs && smallL ys && Nat.beq xs.length ys.length) (eqs eq1 xs ys)) _ = _
 rw [h, e]; rfl
end
theorem it9 {d : Dat} {S : AV} {va sh k : Nat} {t : Lo} {c hs : List AV} {x : List Int × List Nat} {q : Fl × Fl × Fl} {hue s v l l3 : Fl} {m : Nat} (hk : k < 1000) (hst : d.step < 1000) (hz : 0 < d.size) (hz2 : d.size < 1000) (hsh : sh < 17) (hva : va < 1000) (hs' : smallL hs = true)
  (p1 : hsvM (Fl.frac false (k * d.step) d.size) (Fl.frac false sh 8) (Fl.frac false va 8) = some q) (p2 : rhsvM q.1 q.2.1 q.2.2 = some (hue, s, v)) (p3 : rhlsM q.1 q.2.1 q.2.2 = some (hue, l, l3)) (es : Fl.frac false sh 8 = s) (ev : Fl.frac false va 8 = v) (el : Fl.frac false (va * (16 - sh)) 128 = l)
  (q1 : Fl.eq hue hue = true) (q2 : Fl.eq s s = true) (q3 : Fl.eq v v = true) (q4 : Fl.eq l l = true)
  (s1 : (lvlO 25).cl 16 [.tup (x.1.map .int), .ref 9] [] 0 (HB d c hs) = some (.int (sumM d x.1), HB d c hs)) (s2 : (lvlO 26).cl 5 [.int (sumM d x.1), .int d.size] [] 0 (HB d c hs) = some (.tup [.int (Int.fdiv (sumM d x.1) d.size), .int m], HB d c hs)) (hm : m < 1000) (hh : Fl.frac false m d.size = hue) :
  forF (lvlO 30) Zt34 Zt36 ceL 0 (.tup [.int k, rowV x]) (.nx, loT d S va sh t, HB d c hs) = some ((.nx, loT d S va sh (tail9 t k x q (hue, s, v)), HB d c (hs ++ [.flt hue])), true) := by
 have hks : k * d.step < 1000000 := Nat.lt_of_le_of_lt (Nat.mul_le_mul (Nat.le_of_lt hk) (Nat.le_of_lt_succ hst)) (by decide)
 have hvs : va * (16 - sh) < 1000000 := Nat.lt_of_le_of_lt (Nat.mul_le_mul (Nat.le_of_lt hva) (Nat.sub_le 16 sh)) (by decide)
 have d8 : ∀ {a : Nat} {f : Fl} {H : St}, a < 1000000 → Fl.frac false a 8 = f → binM .Div (.int a) (.int 8) H = some (.flt f, H) := fun h e => e ▸ divN (b := 8) h (by decide)
 have hss := d8 (H := HB d c hs) (Nat.lt_trans hsh (by decide)) es
 have hvv := d8 (H := HB d c hs) (Nat.lt_trans hva (by decide)) ev
 have hll : binM .Div (.int ((va * (16 - sh) : Nat) : Int)) (.int 128) (HB d c hs) = some (.flt l, HB d c hs) := el ▸ divN (b := 128) hvs (by decide)
 have hmm : binM .Div (.int m) (.int d.size) (HB d c hs) = some (.flt hue, HB d c hs) := hh ▸ divN (Nat.lt_trans hm (by decide)) hz
 have hsub : binM .Sub (.int 16) (.int sh) (HB d c hs) = some (.int ((16 - sh : Nat) : Int), HB d c hs) := by
  show some (AV.int (16 - (sh : Int)), _) = _
  rw [Int.ofNat_sub (Nat.le_of_lt_succ hsh)]; rfl
 rw [es, ev] at p1
 have o11 : orc 11 [.flt (Fl.frac false (k * d.step) d.size), .flt s, .flt v] = some (tupF q) := by show ob1 (hsvM _ _ _) _ = _; rw [p1]; rfl
 have o10 : orc 10 [.flt q.1, .flt q.2.1, .flt q.2.2] = some (tupF (hue, s, v)) := by show ob1 (rhsvM _ _ _) _ = _; rw [p2]; rfl
 have o9 : orc 9 [.flt q.1, .flt q.2.1, .flt q.2.2] = some (tupF (hue, l, l3)) := by show ob1 (rhlsM _ _ _) _ = _; rw [p3]; rfl
 have u76 : lkp 76 (loT d S va sh (setL 103 (rowV x) (setL 76 (.int k) t))) = some (.int k) := show lkp 76 (setL 103 (rowV x) (setL 76 (.int k) t)) = _ from lk_ne rfl lk_self
 have u103 : lkp 103 (setL 103 (rowV x) (setL 76 (.int k) t)) = some (rowV x) := lk_self
 have e0 : exS (lvlO 29) [Zt25] (loT d S va sh (setL 103 (rowV x) (setL 76 (.int k) t))) ceL 0 (HB d c hs) = some (.nx, loT d S va sh (setL 125 (.flt q.2.2) (setL 124 (.flt q.2.1) (setL 123 (.flt q.1) (setL 103 (rowV x) (setL 76 (.int k) t))))), HB d c hs) :=
  exS_nx (x_asgt (v_gcall (evs_c (v_bin (v_bin (v_lk rfl u76) (v_lk rfl rfl) (mulN (Nat.lt_trans hk (by decide)) (Nat.lt_trans hst (by decide)))) (v_lk rfl rfl) (divN hks hz)) (evs_2 (v_bin (v_lk rfl rfl) rfl hss) (v_bin (v_lk rfl rfl) rfl hvv))) rfl (cl_o rfl o11)) rfl)
 have hA : forF (lvlO 30) Zt34 Zt36 ceL 0 (.tup [.int k, rowV x]) (.nx, loT d S va sh t, HB d c hs) = obX (exS (lvlO 29) ([Zt25] ++ ([Zt26] ++ [Zt27, Zt28])) (loT d S va sh (setL 103 (rowV x) (setL 76 (.int k) t))) ceL 0 (HB d c hs)) (fun lo H => some ((.nx, lo, H), true)) fun v lo H => some ((.rt v, lo, H), false) := rfl
 rw [hA]
 unfold tail9
 generalize setL 103 (rowV x) (setL 76 (.int k) t) = u at e0 u103 ⊢
 have w : ∀ {u : Lo} {f g h : AV}, lkp 123 (setL 125 f (setL 124 g (setL 123 h u))) = some h ∧ lkp 124 (setL 125 f (setL 124 g (setL 123 h u))) = some g ∧ lkp 125 (setL 125 f (setL 124 g (setL 123 h u))) = some f := ⟨lk_ne rfl (lk_ne rfl lk_self), lk_ne rfl lk_self, lk_self⟩
 obtain ⟨v123, v124, v125⟩ := w (u := u) (f := .flt q.2.2) (g := .flt q.2.1) (h := .flt q.1)
 have v103 : lkp 103 (setL 125 (.flt q.2.2) (setL 124 (.flt q.2.1) (setL 123 (.flt q.1) u))) = some (rowV x) := lk_ne rfl (lk_ne rfl (lk_ne rfl u103))
 generalize setL 125 (.flt q.2.2) (setL 124 (.flt q.2.1) (setL 123 (.flt q.1) u)) = u1 at e0 v123 v124 v125 v103 ⊢
 have y123 : lkp 123 (loT d S va sh u1) = some (.flt q.1) := v123
 have y124 : lkp 124 (loT d S va sh u1) = some (.flt q.2.1) := v124
 have y125 : lkp 125 (loT d S va sh u1) = some (.flt q.2.2) := v125
 have y103 : lkp 103 (loT d S va sh u1) = some (rowV x) := v103
 have e1 : exS (lvlO 29) [Zt26] (loT d S va sh u1) ceL 0 (HB d c hs) = some (.nx, loT d S va sh (setL 126 (tupF (hue, s, v)) (setL 127 (.flt hue) u1)), HB d c hs) :=
  exS_nx (x_asw (evs_2 (v_gcall (evs_c (v_lk rfl y123) (evs_2 (v_lk rfl y124) (v_lk rfl y125))) rfl (cl_o rfl o10)) (v_bin (v_idx (v_gcall (evs_2 (v_gcall (evs_2 (v_idx (v_lk rfl y103) rfl rfl) (v_lk rfl rfl)) rfl s1) (v_lk rfl rfl)) rfl s2) rfl rfl) (v_lk rfl rfl) hmm)) rfl)
 have z126 : lkp 126 (loT d S va sh (setL 126 (tupF (hue, s, v)) (setL 127 (.flt hue) u1))) = some (tupF (hue, s, v)) := lk_self (k := 126) (lo := setL 127 (.flt hue) u1)
 have z127 : lkp 127 (loT d S va sh (setL 126 (tupF (hue, s, v)) (setL 127 (.flt hue) u1))) = some (.flt hue) := lk_ne (k := 126) (lo := setL 127 (.flt hue) u1) rfl lk_self
 have z123 : lkp 123 (loT d S va sh (setL 126 (tupF (hue, s, v)) (setL 127 (.flt hue) u1))) = some (.flt q.1) := lk_ne (k := 126) (lo := setL 127 (.flt hue) u1) rfl (lk_ne rfl v123)
 have z124 : lkp 124 (loT d S va sh (setL 126 (tupF (hue, s, v)) (setL 127 (.flt hue) u1))) = some (.flt q.2.1) := lk_ne (k := 126) (lo := setL 127 (.flt hue) u1) rfl (lk_ne rfl v124)
 have z125 : lkp 125 (loT d S va sh (setL 126 (tupF (hue, s, v)) (setL 127 (.flt hue) u1))) = some (.flt q.2.2) := lk_ne (k := 126) (lo := setL 127 (.flt hue) u1) rfl (lk_ne rfl v125)
 have e2 : exS (lvlO 29) [Zt27, Zt28] (loT d S va sh (setL 126 (tupF (hue, s, v)) (setL 127 (.flt hue) u1))) ceL 0 (HB d c hs) = some (.nx, loT d S va sh (setL 126 (tupF (hue, s, v)) (setL 127 (.flt hue) u1)), HB d c (hs ++ [.flt hue])) :=
  Eq.trans (exS_nx (ex_if (t := false) (t_or2
   (v_cmp (v_lk rfl z126) (v_tup (evs_c (v_lk rfl z127) (evs_2 (v_bin (v_lk rfl rfl) rfl hss) (v_bin (v_lk rfl rfl) rfl hvv))) rfl) (c_ne (eqM_T rfl (eq_F3 q1 q2 q3))))
   (v_cmp (v_slc (v_gcall (evs_c (v_lk rfl z123) (evs_2 (v_lk rfl z124) (v_lk rfl z125))) rfl (cl_o rfl o9)) rfl rfl rfl rfl) (v_tup (evs_2 (v_lk rfl z127) (v_bin (v_bin (v_lk rfl rfl) (v_bin rfl (v_lk rfl rfl) hsub) (mulN (Nat.lt_trans hva (by decide)) (Nat.lt_of_le_of_lt (Nat.sub_le 16 sh) (by decide)))) rfl hll)) rfl) (c_ne (eqM_T rfl (eq_F2 q1 q4))))) rfl))
   (exS_nx (x_expm (v_mcall (v_var rfl) rfl (evs_1 (v_idx (v_lk rfl z126) rfl rfl)) (m_app rfl rfl hs'))))
 rw [exS_app e0, exS_app e1, e2]; rfl
noncomputable def enumR (rows : Rows) : List AV := (List.range rows.length).map fun (k : Nat) => (nth rows k).elim .none fun x => AV.tup [.int k, rowV x]
theorem nth_enumR {rows : Rows} (k : Nat) : nth (enumR rows) k = ob1 (nth (rows.map rowV) k) fun v => some (.tup [.int k, v]) := by
 unfold enumR
 rw [nth_map, nth_map]
 by_cases h : k < rows.length
 ·obtain ⟨x, e2⟩ := nth_ok h
  have e1 : nth (List.range rows.length) k = some k := by rw [nth_get]; exact List.getElem?_range h
  rw [e1]
  show some ((nth rows k).elim AV.none fun x => AV.tup [.int k, rowV x]) = _
  rw [e2]; rfl
 ·rw [nth_get, nth_get, List.getElem?_eq_none (by rw [List.length_range]; omega), List.getElem?_eq_none (by omega)]; rfl
noncomputable def Shape (k : Nat) (t : Lo) : Prop := (k = 0 ∧ t = []) ∨ ∃ a b c d e f g, t = [(76, a), (103, b), (123, c), (124, d), (125, e), (127, f), (126, g)]
theorem Shape.next {k : Nat} {t : Lo} (h : Shape k t) (x : List Int × List Nat) (q h2 : Fl × Fl × Fl) : Shape (k + 1) (tail9 t k x q h2) := by
 rcases h with ⟨_, rfl⟩ | ⟨_, _, _, _, _, _, _, rfl⟩
 ·exact .inr ⟨_, _, _, _, _, _, _, rfl⟩
 ·exact .inr ⟨_, _, _, _, _, _, _, rfl⟩
theorem take_snoc {l : List Int} {k : Nat} {z : Int} (h : nth l k = some z) : l.take (k + 1) = l.take k ++ [z] := by
 rw [nth_get] at h
 rw [List.take_add_one, h]; rfl
theorem zip_at {α β : Type} (xs : List α) : ∀ {ys : List β} {k : Nat} {x : α} {y : β}, nth xs k = some x → nth ys k = some y → (x, y) ∈ xs.zip ys := by
 induction xs with
 | nil => exact fun h => nomatch h
 | cons a xs ih =>
  intro ys k x y h1 h2
  cases ys with
  | nil => exact nomatch h2
  | cons b ys =>
   cases k with
   | zero => rw [← sI1 h1, ← sI1 h2]; exact .head _
   | succ k => exact .tail _ (ih (k := k) h1 h2)
theorem dat_step {d : Dat} (h : d ∈ dats) : d.step < 1000 ∧ d.keys.length = d.size :=
 (and_all (List.all_eq_true.mp (show dats.all (fun d => Nat.blt d.step 1000 && Nat.beq d.keys.length d.size) = true by decide +kernel) d h)).imp Nat.le_of_ble_eq_true Nat.eq_of_beq_eq_true
theorem paint {hue h s v l : Fl} (e : ckPaint hue h s v l = true) : ∃ q l3, hsvM h s v = some q ∧ rhsvM q.1 q.2.1 q.2.2 = some (hue, s, v) ∧ rhlsM q.1 q.2.1 q.2.2 = some (hue, l, l3) ∧ Fl.eq hue hue = true ∧ Fl.eq s s = true ∧ Fl.eq v v = true ∧ Fl.eq l l = true := by
 obtain ⟨q, e1, e⟩ := onB_inv e
 obtain ⟨p1, p2⟩ := and_all e
 obtain ⟨a, e2, p1⟩ := onB_inv p1
 obtain ⟨b, e3, p2⟩ := onB_inv p2
 obtain ⟨x1, p1⟩ := and_all p1
 obtain ⟨x2, x3⟩ := and_all p1
 obtain ⟨y1, y2⟩ := and_all p2
 obtain rfl := same_eq x1
 obtain rfl := same_eq x2
 obtain rfl := same_eq x3
 obtain rfl := same_eq y2
 have h1 := same_eq y1
 exact ⟨q, b.2.2, e1, e2, by rw [e3, ← h1], same_fl x1, same_fl x2, same_fl x3, same_fl y2⟩
theorem sumP_at {d : Dat} (hd : d ∈ dats) {x : List Int × List Nat} (hx : x ∈ d.rows) (c hs : List AV) : (lvlO 25).cl 16 [.tup (x.1.map .int), .ref 9] [] 0 (HB d c hs) = some (.int (sumM d x.1), HB d c hs) ∧ (lvlO 26).cl 5 [.int (sumM d x.1), .int d.size] [] 0 (HB d c hs) = some (.tup [.int (Int.fdiv (sumM d x.1) d.size), .int (Int.fmod (sumM d x.1) d.size)], HB d c hs) := by
 have := List.map_inj_left.mp (all_at _ sp_all hd c hs) x hx
 exact ⟨congrArg Prod.fst this, congrArg Prod.snd this⟩
structure At9 (d : Dat) (S : AV) (va sh : Nat) (c : List AV) (k : Nat) (lo : Lo) (K : St) : Prop where
 h : ∃ t, lo = loT d S va sh t ∧ Shape k t
 k : K = HB d c (fltV (d.hues.take k))
theorem step_9 {d : Dat} (hd : d ∈ dats) {S : AV} {va sh k : Nat} {c : List AV} (h2 : sh < 8) (h4 : va < 8) {x : AV} {lo : Lo} {K : St} (hx : nth (enumR d.rows) k = some x) (i : At9 d S (va + 1) (sh + 1) c k lo K) :
  ∃ lo' K', forF (lvlO 30) Zt34 Zt36 ceL 0 x (.nx, lo, K) = some ((.nx, lo', K'), true) ∧ At9 d S (va + 1) (sh + 1) c (k + 1) lo' K' := by
 obtain ⟨⟨t, rfl, sh'⟩, rfl⟩ := i
 have C := ck_dats hd
 have hz : 0 < d.size ∧ d.size < 20 := by rcases C.z with q | q <;> rw [q] <;> decide
 have hn := nth_lt hx
 unfold enumR at hn
 rw [List.length_map, List.length_range] at hn
 obtain ⟨x, hxk⟩ := nth_ok hn
 rw [nth_enumR, nth_rowV hxk] at hx
 obtain rfl := sI1 hx
 obtain ⟨hlen, sums⟩ := and_all (List.all_eq_true.mp t_sum d hd)
 have hlen := Nat.eq_of_beq_eq_true hlen
 obtain ⟨z, hzk⟩ := nth_ok (xs := d.hues) (hlen.symm ▸ hn)
 obtain ⟨sm1, sm⟩ := and_all (List.all_eq_true.mp sums (x, z) (zip_at _ hxk hzk))
 have hh := same_eq (and_all sm).2
 obtain ⟨m, hm1, hm⟩ := fmod_lt (sumM d x.1) hz.1
 obtain ⟨z2, hz2, hp⟩ := hue_at hd (C.rl ▸ hn)
 rw [hzk] at hz2
 obtain rfl := sI1 hz2
 obtain ⟨q, l3, p1, p2, p3, q1, q2, q3, q4⟩ := paint (hp sh va h2 h4)
 obtain ⟨s1, s2⟩ := sumP_at hd (nth_mem hxk) c (fltV (d.hues.take k))
 rw [hm] at s2 hh
 have hk20 : k < 20 := Nat.lt_trans (C.rl ▸ hn) hz.2
 have hsm : smallL (fltV (d.hues.take k)) = true := by
  unfold fltV
  rw [smallL_map]
  exact small_64 (Nat.lt_of_le_of_lt (List.length_take_le _ _) (Nat.lt_trans hk20 (by decide)))
 have st := it9 (t := t) (S := S) (va := va + 1) (sh := sh + 1) (Nat.lt_trans hk20 (by decide)) (dat_step hd).1 hz.1 (Nat.lt_trans hz.2 (by decide)) (Nat.lt_of_le_of_lt h2 (by decide)) (Nat.lt_of_le_of_lt h4 (by decide)) hsm p1 p2 p3 rfl rfl rfl q1 q2 q3 q4 s1 s2 (Nat.lt_trans hm1 (Nat.lt_trans hz.2 (by decide))) hh
 refine ⟨_, _, st, ⟨_, rfl, sh'.next _ _ _⟩, ?_⟩
 rw [take_snoc hzk]
 unfold fltV
 rw [List.map_append]; rfl
theorem e_9 {d : Dat} (hd : d ∈ dats) {S : AV} {va sh : Nat} {c : List AV} (h2 : sh < 8) (h4 : va < 8) :
  ∃ v76 v103 v123 v124 v125 v127 v126, exS (lvlO 30) [Zt43] (lo3 d S (.int (va + 1 : Nat)) (.int (sh + 1 : Nat))) ceL 0 (HB d c []) = some (.nx, lo9 d S (.int (va + 1 : Nat)) (.int (sh + 1 : Nat)) v76 v103 v123 v124 v125 v127 v126 [], HB d c (fltV d.hues)) := by
 have C := ck_dats hd
 have hz : 0 < d.size ∧ d.size < 20 := by rcases C.z with q | q <;> rw [q] <;> decide
 have hlen := Nat.eq_of_beq_eq_true (and_all (List.all_eq_true.mp t_sum d hd)).1
 have hl : (enumR d.rows).length = d.rows.length := by unfold enumR; rw [List.length_map, List.length_range]
 have hit : itM (fun x K => (lvlO 30).ev x (lo3 d S (.int (va + 1 : Nat)) (.int (sh + 1 : Nat))) ceL 0 K) Zt35 (HB d c []) = some (.en (.lst 11), HB d c []) := rfl
 obtain ⟨lo', H', e1, ⟨⟨t, e2, e3⟩, e4⟩⟩ := loop_inv (c := 100) (F := forF (lvlO 30) Zt34 Zt36 ceL 0) (s := .en (.lst 11)) (items := enumR d.rows) (Inv := At9 d S (va + 1) (sh + 1) c) (lo := loT d S (va + 1) (sh + 1) []) (H := HB d c [])
  (fun k lo K i j => by
   rw [i.k]
   exact (src_en (src_lst (i := 11) (xs := d.rows.map rowV) rfl (by rw [smallL_map]; exact small_64 (by rw [C.rl]; exact Nat.lt_trans hz.2 (by decide))))).trans (congrArg some (nth_enumR j).symm)) (fun k x lo K hx i => step_9 hd h2 h4 hx i) (by rw [hl, C.rl]; exact Nat.lt_trans hz.2 (by decide)) ⟨⟨[], rfl, .inl ⟨rfl, rfl⟩⟩, rfl⟩
 rw [hl] at e3 e4
 rcases e3 with ⟨q, _⟩ | ⟨a1, a2, a3, a4, a5, a6, a7, rfl⟩
 ·exact absurd (C.rl ▸ q) (Nat.ne_of_gt hz.1)
 ·rw [List.take_of_length_le (Nat.le_of_eq hlen)] at e4
  refine ⟨a1, a2, a3, a4, a5, a6, a7, exS_nx ((ex_fors hit).trans (e1.trans ?_))⟩
  rw [e2, e4]; rfl
theorem kGen_eq {N : Nat} {w : List AV} {K : St} (hl : K.length = N) (h : getLst K 10 = some w) : kGen N w (fun i => (nth K i).getD (.cell none)) = K := by
 apply List.ext_getElem?
 intro i
 unfold kGen
 rw [List.getElem?_map]
 by_cases hi : i < N
 ·rw [List.getElem?_range hi]
  show some (cond (Nat.beq i 10) (AO.lst w) ((nth K i).getD (.cell none))) = K[i]?
  cases q : Nat.beq i 10 with
  | true =>
   obtain rfl := Nat.eq_of_beq_eq_true q
   exact ((nth_get K 10).symm.trans (lst_at.mp h)).symm
  | false =>
   show some ((nth K i).getD _) = _
   obtain ⟨o, e⟩ := nth_ok (xs := K) (hl ▸ hi)
   rw [← nth_get, e]; rfl
 ·rw [List.getElem?_eq_none (by rw [List.length_range]; exact Nat.not_lt.mp hi), List.getElem?_eq_none (hl ▸ Nat.not_lt.mp hi)]; rfl
theorem fig_at {d : Dat} (hd : d ∈ dats) (hl : d.rows.length = d.size) {o : Nat} {x : List Int × List Nat} {K : St} (hx : nth d.rows o = some x) (hN : K.length = 31 + 4 * d.size) (hk : getLst K 10 = some (intV d.worths)) :
  (lvlO 27).cl 18 [.int o, .ref 10] [] 0 K = some (.tup [.tup (x.1.map .int), .int 0], K) := by
 have := congrArg (fun l => nth l o) (all_at _ fig_all hd fun i => (nth K i).getD (.cell none))
 rw [kGen_eq hN hk] at this
 have h1 : nth ((List.range d.size).map fun (k : Nat) => (lvlO 27).cl 18 [.int k, .ref 10] [] 0 K) o = nth (d.rows.map fun x => some (AV.tup [.tup (x.1.map .int), .int 0], K)) o := this
 rw [nth_map, nth_map, hx, nth_get, List.getElem?_range (hl ▸ nth_lt hx)] at h1
 exact sI1 h1
noncomputable def Pt {α : Type} : List (Option α) → List α → Prop
 | [], _ => True
 | some a :: t, x :: l => x = a ∧ Pt t l
 | none :: t, _ :: l => Pt t l
 | _ :: _, [] => False
theorem pt_at {α : Type} {o : α} (t : List (Option α)) : ∀ {l : List α} {i : Nat}, Pt t l → nth t i = some (some o) → nth l i = some o := by
 induction t with
 | nil => exact fun _ e => nomatch e
 | cons a t ih =>
  intro l i h e
  cases l with
  | nil => cases a <;> exact h.elim
  | cons x l =>
   cases a with
   | none =>
    cases i with
    | zero => exact nomatch sI1 e
    | succ i => exact ih (l := l) h e
   | some a =>
    cases i with
    | zero => rw [← sI1 (sI1 e), ← h.1]; rfl
    | succ i => exact ih (l := l) h.2 e
section
variable {d : Dat} {S : AV} {va sh : Nat} {c0 c1 c2 c3 : Int} {xs : List Int}
theorem behind (hd : d ∈ dats) (h2 : sh < 8) (h4 : va < 8) (m2 : smallI c2 = true) (m3 : smallI c3 = true) : RTr (exS (lvlO 30) (b20.drop 4) (lo3 d S (.int (va + 1 : Nat)) (.int (sh + 1 : Nat))) ceL 0 (H10 d [.int c0, .int c1, .int c2, .int c3])) := by
 have C := ck_dats hd
 obtain ⟨v76, v103, v123, v124, v125, v127, v126, e9⟩ := e_9 hd (S := S) (c := [.int c0, .int c1, .int c2, .int c3]) h2 h4
 have s : Sfx c0 c1 c2 c3 d.rows (d.ring.map fun (k : Nat) => (k : Int)) d.worths (HC d [.int c0, .int c1, .int c2, .int c3]) := by
  have hr : rngR d.ring = (d.ring.map fun (k : Nat) => (k : Int)).map .int := (List.map_map (l := d.ring)).symm
  refine ⟨fun i o e => ?_, fun i hi => ?_⟩
  ·unfold HC
   rw [hr]
   refine pt_at _ ?_ e
   exact And.intro rfl <| And.intro rfl <| And.intro rfl <| And.intro rfl <| And.intro rfl <| And.intro rfl <| And.intro rfl <| And.intro rfl <| trivial
  ·rcases i with _ | _ | _ | _ | i
   ·exact nomatch hi
   ·exact ⟨_, rfl⟩
   ·exact ⟨_, rfl⟩
   ·exact ⟨_, rfl⟩
   ·exact nomatch hi
 have hlen : (HC d [.int c0, .int c1, .int c2, .int c3]).length = 21 + d.size := by
  unfold HC
  rw [List.length_append]
  show 16 + (List.length ((d.keys.map fun k => AO.lst (intV k)) ++ [.lst (rngR d.ring)]) + 1 + 1 + 1 + 1) = _
  rw [List.length_append, List.length_map, (dat_step hd).2]
  show 16 + (d.size + 1 + 1 + 1 + 1 + 1) = _
  omega
 rw [show b20.drop 4 = (b20.drop 4).take 5 ++ ([Zt43] ++ ((b20.drop 10).take 5 ++ b20.drop 15)) from rfl, exS_app (all_at _ sa_all hd S (.int (va + 1 : Nat)) (.int (sh + 1 : Nat)) [.int c0, .int c1, .int c2, .int c3]), exS_app e9, exS_app (all_at _ sc_all hd S (.int (va + 1 : Nat)) (.int (sh + 1 : Nat)) v76 v103 v123 v124 v125 v127 v126 [.int c0, .int c1, .int c2, .int c3])]
 exact suffix C (n := 18) s (.cons rfl (.cons rfl (.cons rfl .nil))) m2 m3 fun o x K hx sK hK => fig_at hd C.rl hx (by rw [hK, hlen]; omega) sK.l10
theorem find_dat (a : Nat) (ha : a < 2) (j : Nat) (hj : j < 4 + 4 * a) : ∃ d ∈ dats, d.size = 8 + a * 8 ∧ d.step = 1 + j * 2 := by
 have h : ((List.range 2).all fun a => (List.range (4 + 4 * a)).all fun j => dats.any fun d => Nat.beq d.size (8 + a * 8) && Nat.beq d.step (1 + j * 2)) = true := by decide +kernel
 obtain ⟨d, hd, e⟩ := List.any_eq_true.mp (List.all_eq_true.mp (List.all_eq_true.mp h a (List.mem_range.mpr ha)) j (List.mem_range.mpr hj))
 exact ⟨d, hd, (and_all e).imp Nat.eq_of_beq_eq_true Nat.eq_of_beq_eq_true⟩
theorem ahead (hl : xs.length < 64) : ∃ d ∈ dats, ∃ (va sh : Nat) (c0 c1 c2 c3 : Int), (sh < 8 ∧ va < 8) ∧ (smallI c2 = true ∧ smallI c3 = true) ∧
  (lvlO 29).cl 12 [.frz (xs.map .int), firsts] [] 0 H0 = some (.ref 7, H8 [.int c0, .int c1, .int c2, .int c3]) ∧ exS (lvlO 30) ((b20.drop 1).take 2) [(73, .frz (xs.map .int)), (116, .ref 7)] ceL 0 (H8 [.int c0, .int c1, .int c2, .int c3]) = some (.nx, loC d (.frz (xs.map .int)) (.int (va + 1 : Nat)) (.int (sh + 1 : Nat)) [], H8 [.int c0, .int c1, .int c2, .int c3]) := by
 obtain ⟨c0, c1, c2, c3, ⟨m0, m1, m2, m3⟩, hc⟩ := cells_c (n := 21) hl
 obtain ⟨a, ha, qa⟩ := fmod_lt c0 (z := 2) (by decide)
 obtain ⟨sh, hsh, qsh⟩ := fmod_lt c1 (z := 8) (by decide)
 obtain ⟨va, hva, qva⟩ := fmod_lt (Int.fdiv c1 8) (z := 8) (by decide)
 obtain ⟨j, hj, qj⟩ := fmod_lt (Int.fdiv c0 2) (z := 4 + 4 * a) (Nat.lt_of_lt_of_le (by decide) (Nat.le_add_right _ _))
 obtain ⟨d, hd, ds, dt⟩ := find_dat a ha j hj
 refine ⟨d, hd, va, sh, c0, c1, c2, c3, ⟨hsh, hva⟩, ⟨m2, m3⟩, hc, ?_⟩
 have i0 : idxM (.ref 7) (.int 0) (H8 [.int c0, .int c1, .int c2, .int c3]) = some (.int c0) := idx_nat (k := 0) (xs := [.int c0, .int c1, .int c2, .int c3]) rfl rfl rfl
 have i1 : idxM (.ref 7) (.int 1) (H8 [.int c0, .int c1, .int c2, .int c3]) = some (.int c1) := idx_nat (k := 1) (xs := [.int c0, .int c1, .int c2, .int c3]) rfl rfl rfl
 have qm : ∀ {x : Int} {z o : Nat} {H : St}, eqI (z : Int) 0 = false → Int.fmod x z = o → binM .Mod (.int x) (.int z) H = some (.int o, H) := fun h e => e ▸ b_mod h
 have q1 := qm (H := H8 [.int c0, .int c1, .int c2, .int c3]) rfl qa
 have q2 := qm (H := H8 [.int c0, .int c1, .int c2, .int c3]) rfl qsh
 have q3 := qm (H := H8 [.int c0, .int c1, .int c2, .int c3]) rfl qva
 have add1 : ∀ {v : Nat} {H : St}, binM .Add (.int 1) (.int v) H = some (.int (v + 1 : Nat), H) := fun {v H} => by
  show some (AV.int (1 + (v : Int)), H) = _
  rw [Int.add_comm]; rfl
 have w1 : (8 : Int) + (a : Int) * 8 = (d.size : Int) := by rw [ds]; rfl
 have w2 : Int.fdiv (d.size : Int) 2 = ((4 + 4 * a : Nat) : Int) := by
  rw [Int.fdiv_eq_ediv_of_nonneg _ (by decide), ds]; omega
 have w3 : (1 : Int) + (j : Int) * 2 = (d.step : Int) := by rw [dt]; rfl
 have hz : d.size < 1000000 := by rw [ds]; omega
 have hq4 := qm (H := H8 [.int c0, .int c1, .int c2, .int c3]) (Bool.eq_false_iff.mpr fun q => by have := (W.Z.eqB_iff _ _).mp q; omega) qj
 have p1 : ∀ {k : Nat} {n : Nat} {H : St}, k < 20 → smallI (n : Int) = true → binM .Mult (.int k) (.int (n : Int)) H = some (.int ((k : Int) * n), H) := fun {k n H} h h2 => by
  show alt (gd (smallI k && smallI n) _) _ = _
  rw [smallI_nat (Nat.lt_trans h (by decide)), h2]; rfl
 have e1 : exS (lvlO 30) [Zt41] [(73, .frz (xs.map .int)), (116, .ref 7)] ceL 0 (H8 [.int c0, .int c1, .int c2, .int c3]) = some (.nx, [(73, .frz (xs.map .int)), (116, .ref 7), (118, .int (va + 1 : Nat)), (117, .int (sh + 1 : Nat)), (83, .int d.size)], H8 [.int c0, .int c1, .int c2, .int c3]) := by
  rw [← w1]
  exact exS_nx (x_asw (evs_c (v_bin rfl (v_bin (v_bin (v_idx (v_lk rfl rfl) rfl i0) rfl q1) rfl (p1 (n := 8) (Nat.lt_trans ha (by decide)) rfl)) rfl) (evs_2 (v_bin rfl (v_bin (v_idx (v_lk rfl rfl) rfl i1) rfl q2) add1) (v_bin rfl (v_bin (v_bin (v_idx (v_lk rfl rfl) rfl i1) rfl (b_fd m1 rfl rfl)) rfl q3) add1))) rfl)
 have e2 : exS (lvlO 30) [Zt42] [(73, .frz (xs.map .int)), (116, .ref 7), (118, .int (va + 1 : Nat)), (117, .int (sh + 1 : Nat)), (83, .int d.size)] ceL 0 (H8 [.int c0, .int c1, .int c2, .int c3]) = some (.nx, loC d (.frz (xs.map .int)) (.int (va + 1 : Nat)) (.int (sh + 1 : Nat)) [], H8 [.int c0, .int c1, .int c2, .int c3]) := by
  have e3 := b_fd (H := H8 [.int c0, .int c1, .int c2, .int c3]) (a := (d.size : Int)) (d := 2) (smallI_nat hz) rfl rfl
  rw [w2] at e3
  unfold loC
  rw [← w3]
  exact exS_nx (x_asgn (v_bin rfl (v_bin (v_bin (v_bin (v_idx (v_lk rfl rfl) rfl i0) rfl (b_fd m0 rfl rfl)) (v_bin (v_lk rfl rfl) rfl e3) hq4) rfl (p1 (n := 2) (by omega) rfl)) rfl) rfl)
 rw [show (b20.drop 1).take 2 = [Zt41] ++ [Zt42] from rfl, exS_app e1]
 exact e2
end
end Mine.Pl
end
section
open PySem PySem.W PyProof.Rows Mine.Pl
open PySem.SeqAt PySem.Builtin
namespace Mine
theorem clO_snd (ok : Ok0) {n : Nat} (D : Snd (30 + n) (lvlO n)) : SndC (30 + (n + 1)) (clO (lvlO n)) := fun f vs ks b w fn fa o fd A vals kvals hf F h13 h20 R rv rk => by
 refine Op.cnd (fun h => Op.gd fun hk => Op.ob1 fun v hv => Op.some ?_) fun h => ?_
 ·have ek : ks = [] := List.isEmpty_iff.mp hk
  subst ek
  have hL : (lvl C0.P 30).cl f vs [] b w.H = some (v, w.H) := by rw [ok.P]; exact orc_ok f vs b w.H v hv
  exact (snd_lvl ok 30).cl f vs [] b w fn fa o fd A vals kvals hf F h13 h20 (R.le (Nat.le_add_right _ _)) rv rk _ hL
 ·refine Op.cnd (fun h5 => Op.gd fun hk => Op.ob1 fun v hv => Op.some fun Q E kont => ?_) fun _ => ?_
  ·obtain rfl := Nat.eq_of_beq_eq_true h5
   have ek : ks = [] := List.isEmpty_iff.mp hk
   subst ek
   obtain ⟨x, y, rfl, rfl, hL⟩ := dv_ok vs v hv
   rw [← ok.P] at hL
   have S := w.S
   let w0 : Ws := ⟨w.U, [], [], w.s, ⟨S.base, fun _ _ e => (nomatch e), fun _ _ _ e => (nomatch e), rfl, fun _ _ _ e => (nomatch e), S.tabs, S.hid⟩, w.t⟩
   refine (snd_lvl ok 30).cl 5 [.int x, .int y] [] 0 w0 fn fa o fd A vals kvals hf F h13 h20 (R.le (Nat.le_add_right _ _)) (show VRs w [.int x, .int y] vals from rv) rk _ hL Q E fun w1 v l r => ?_
   have p := l.p
   have E1 : Evo b w.ρ none w.s.heap w1.s.heap := ⟨p.E.alive, fun a o e _ ht _ => p.E.keep a o e (fun _ _ q => nomatch q) ht fun q => (nomatch q)⟩
   have q : Post w.U b w.ρ none w.s.heap w.ρ w.H w1.s.heap := ⟨⟨p.S.base, S.apart, S.nodup, S.len, fun i a ob e hn => (S.objs i a ob e hn).move (Mv.mono S E1 Dic.none Ext.refl) fun o ho => p.E.keep a o ho (fun _ _ q => nomatch q) (S.noTab e) fun q => (nomatch q), p.S.tabs, p.S.hid⟩, E1, Ext.refl, Fresh.refl⟩
   exact kont ⟨w.U, w.ρ, w.H, w1.s, q.S, w1.t⟩ v ⟨q, l.t, rfl, l.s⟩ ⟨rfl, (l.u ▸ r.2 : VRel w.U w1.ρ w1.s.heap (dvV x y) v)⟩
  ·have h := cl_snd ok D.ex
   rw [ok.P] at h
   exact h f vs ks b w fn fa o fd A vals kvals hf F h13 h20 R rv rk
theorem snd_O (ok : Ok0) (n : Nat) : Snd (30 + n) (lvlO n) := by
 induction n with
 | zero => have h := snd_lvl ok 30; rw [ok.P] at h; exact h
 | succ n D => exact ⟨ev_step D ok, tv_step D ok, ex_step D ok, clO_snd ok D, vc_snd ok D.ev D.ex⟩
section
variable {A : Around} {b : Nat} {w w' : Ws} {K : Kn} {lo lo' : Lo} {tk : Nat}
theorem four_snd {i j k l : Int} {p1 p2 p3 p4 p : Pos} {env : Env} (ht : tk + 1 = w.s.toks) (Q E : Value → Shared → Prop) (kont : ∀ w' val, Le b none w w' → w'.H = w.H → VR w' (.tup [.int i, .int j, .int k, .int l]) val → Q val w'.s) :
  wpAny M0 A (eval (.Tuple [.Constant (.int i) 0 p1, .Constant (.int j) 0 p2, .Constant (.int k) 0 p3, .Constant (.int l) 0 p4] 0 p) env) Q E { w.s with toks := tk } := by
 refine wpAny_Tuple_spliced ?_
 show wpAny _ _ (spliced [(false, eval (.Constant (.int i) 0 p1) env), (false, eval (.Constant (.int j) 0 p2) env), (false, eval (.Constant (.int k) 0 p3) env), (false, eval (.Constant (.int l) 0 p4) env)]) _ _ _
 refine Calls.spliced_cons (wpAny_mkInt ?_)
 refine Calls.spliced_cons (wpAny_mkInt ?_)
 refine Calls.spliced_cons (wpAny_mkInt ?_)
 refine Calls.spliced_cons (wpAny_mkInt ?_)
 refine Calls.spliced_nil ⟨(show 4 ≤ sizeLine by decide), ?_⟩
 have po := Post.push (b := b) (L := none) w.S { cls := .type "tuple", data := .seq #[.int i tk, .int j (tk + 1), .int k (tk + 1 + 1), .int l (tk + 1 + 1 + 1)] }
 have hl : w.s.toks ≤ tk + 1 + 1 + 1 + 1 := by omega
 exact kont (w.next po hl) _ (Le.next po hl) rfl ⟨_, _, _, rfl, Heap.get?_push_size _ rfl, w.S.notHid (Nat.le_refl _), _, _, rfl, ⟨_, rfl⟩, _, _, rfl, ⟨_, rfl⟩, _, _, rfl, ⟨_, rfl⟩, _, _, rfl, ⟨_, rfl⟩, rfl⟩
theorem x_first (ok : Ok0) {V : Lvl} (J : SndC K.n V.cl) (ht : tk + 1 = w.s.toks) {a : AV} {p1 q1 q2 q3 q4 q np cp p kp : Pos} {i j k l : Int} (hg : isG K.kd 81 = true) (hv : isLoc K.kd 73 = true) (ht1 : okS K 116) {v : AV} {H1 : St} {z : Lo × St}
  (e0 : lkp 73 lo = some a) (e1 : V.cl 12 [a, .tup [.int i, .int j, .int k, .int l]] [] K.b w.H = some (v, H1)) (e2 : storeM 116 v lo K.ce K.b H1 = some z) (c : Conf K lo w)
  (Q : Flow → Shared → Prop) (E : Value → Shared → Prop) (kont : ∀ w', Le K.b (some K.L) w w' → w'.H = z.2 → Conf K z.1 w' → Q .next w'.s) :
  wpAny M0 K.A (exec (S.asg (.name 116 kp) (.gcall 12 81 [.var 73 p1, .tupl [.cst (.int i) (.int i) q1, .cst (.int j) (.int j) q2, .cst (.int k) (.int k) q3, .cst (.int l) (.int l) q4] q] [] np cp) p).toS K.env) Q E { w.s with toks := tk } := by
 obtain ⟨fa, o, fd, F⟩ := ok.fn 12 f12 (by rw [ok.P]; rfl)
 have eS : (S.asg (.name 116 kp) (.gcall 12 81 [.var 73 p1, .tupl [.cst (.int i) (.int i) q1, .cst (.int j) (.int j) q2, .cst (.int k) (.int k) q3, .cst (.int l) (.int l) q4] q] [] np cp) p).toS =
   .Assign [.Name (nm 116) kp] (.Call (.Name (nm 81) np) [.Name (nm 73) p1, .Tuple [.Constant (.int i) 0 q1, .Constant (.int j) 0 q2, .Constant (.int k) 0 q3, .Constant (.int l) 0 q4] 0 q] [] cp) p := by kernel_rfl
 rw [eS]
 obtain ⟨mm, hn, hr⟩ := c.F
 obtain ⟨val, e, r⟩ := hr 73 a e0
 refine wpAny_Assign_Name ?_ rfl
 show wpAny _ _ (do callWith cp (← eval (.Name (nm 81) np) K.env) [] [(false, eval (.Name (nm 73) p1) K.env), (false, eval (.Tuple [.Constant (.int i) 0 q1, .Constant (.int j) 0 q2, .Constant (.int k) 0 q3, .Constant (.int l) 0 q4] 0 q) K.env)] (backToKw cp (keywordEach [] K.env))) _ _ _
 refine wpAny_bind (wpAny_Name ?_ (nm_debug _))
 rw [loadName_read K.kind (K.glb 81 hg)]
 have n1 : w.s.heap.Ns K.env.globals C0.mg := by rw [K.globals]; exact ns_at ok.g fun o e => w.S.base _ _ e
 refine Calls.loadGlobal_global n1 F.name ?_
 refine callWith_function_kw (o := o) (fd := fd) (Calls.evalArgs_plain ?_)
 refine Calls.spliced_cons (wpAny_Name (wpAny_loadName_local K.kind (K.loc 73 hv) (by rw [K.eL]; exact hn) e ?_) (nm_debug _))
 refine Calls.spliced_cons (four_snd (b := K.b) ht _ E fun w1 val2 l1 eH r1 => ?_)
 refine Calls.spliced_nil ?_
 refine ⟨⟨w1.S.base _ _ F.at_, F.data⟩, ?_⟩
 have c1 := c.up l1
 refine J 12 _ [] K.b w1 f12 fa o fd K.A [val, val2] [] (by rw [ok.P]; rfl) F (by decide) (by decide) K.R (show VRs w1 [a, .tup [.int i, .int j, .int k, .int l]] [val, val2] from ⟨_, _, rfl, VR.up r l1, _, _, rfl, r1, rfl⟩) rfl (v, H1) (eH ▸ e1) _ E fun w2 val3 l2 r2 => ?_
 obtain ⟨eH2, r2⟩ := r2
 refine store_snd (A := K.A) (c1.up l2) ht1 r2 z (eH2 ▸ e2) _ E fun w3 _ l3 F3 => ?_
 exact kont w3 (((l1.trans l2).widen).trans l3) F3.1 ((c1.up l2).upL l3 F3.2)
end
theorem ceL_in : (ceL.all fun x => isCl f20.kd x.1) = true := by decide +kernel
theorem ceL_is : (cellsM f20.kd [] []).1 = ceL := by rfl
theorem ceL_cov (k : Nat) (e : isCl f20.kd k = true) : ∃ i, lkp k ceL = some i := by
 rw [← ceL_is]
 refine cellsM_cov k f20.kd [] [] ((isCl_at e).imp lkp_mem fun q => ?_)
 have hnf : noFre f20.kd = true := by decide +kernel
 exact nomatch List.all_eq_true.mp hnf _ (lkp_mem q)
noncomputable def KL (fa L : Addr) (R : Rm callerA 62) (hT : C0.T = T3) : Kn := newK callerA 61 R f20.kd 1 ceL f20.mo (cellsFrom (L + 1) (scopeOf f20.kd f20.mo).names []) (nm 149 ++ ".<locals>.") (some fa) (.ref 161) L 0
 (fun k i e => List.all_eq_true.mp ceL_in (k, i) (lkp_mem e)) ceL_cov fun _ => ⟨_, by rw [hT]; exact .tail _ (.tail _ (.head _)), rfl, rfl⟩
section
variable {fa L : Addr} {R : Rm callerA 62} {w : Ws} {xs : List Int} {tk : Nat}
theorem law_walk (ok : Ok0) (hT : C0.T = T3) (hl : xs.length < 64) {base0 : Heap} (hfl : w.s.heap.FunFrames base0 [(KL fa L R hT).env]) (ht : tk + 1 = w.s.toks) (hH : w.H = H0)
  (c : Conf (KL fa L R hT) [(73, .frz (xs.map .int))] w) (Q : Flow → Shared → Prop) (E : Value → Shared → Prop)
  (k : ∀ w', Le 0 (some L) w w' → Q (.ret (.bool true)) w'.s) : wpAny M0 (KL fa L R hT).A (execs (toSs b20) (KL fa L R hT).env) Q E { w.s with toks := tk } := by
 obtain ⟨d, hd, va, sh, c0, c1, c2, c3, ⟨h1, h2⟩, ⟨m2, m3⟩, e0, e1⟩ := ahead hl
 obtain ⟨lo', H', e5⟩ := behind hd (S := .frz (xs.map .int)) (c0 := c0) (c1 := c1) h1 h2 m2 m3
 have e2 : evs (fun x H => (lvlO 30).ev x (loC d (.frz (xs.map .int)) (.int (va + 1 : Nat)) (.int (sh + 1 : Nat)) []) ceL 0 H) [.var 83 ⟨261,39,261,43⟩, .var 84 ⟨261,45,261,49⟩] (H8 [.int c0, .int c1, .int c2, .int c3]) = some ([.int d.size, .int d.step], H8 [.int c0, .int c1, .int c2, .int c3]) := rfl
 obtain ⟨⟨fl, lo9, H3⟩, hx, r13⟩ := obX_inv (all_at _ r13_all hd [.int c0, .int c1, .int c2, .int c3])
 rcases r13 with ⟨_, r13⟩ | ⟨v', efl, r13⟩
 ·exact nomatch r13
 obtain rfl : fl = .rt v' := efl
 have hs : asgM (.tup [(85, ⟨261,4,261,13⟩), (86, ⟨261,15,261,20⟩), (119, ⟨261,22,261,27⟩)] ⟨261,4,261,27⟩) (.tup [.ref 8, .ref 9, .str []]) (loC d (.frz (xs.map .int)) (.int (va + 1 : Nat)) (.int (sh + 1 : Nat)) []) ceL 0 (H8 [.int c0, .int c1, .int c2, .int c3] ++ [.lst (d.quots.map .int), .lst (d.rests.map .int)]) = some (lo3 d (.frz (xs.map .int)) (.int (va + 1 : Nat)) (.int (sh + 1 : Nat)), H10 d [.int c0, .int c1, .int c2, .int c3]) := rfl
 have hk : b20 = (S.asg (.name 116 ⟨258,4,258,9⟩) (.gcall 12 81 [.var 73 ⟨258,23,258,29⟩, .tupl [.cst (.int 7) (.int 7) ⟨258,32,258,33⟩, .cst (.int 21) (.int 21) ⟨258,35,258,37⟩, .cst (.int 44) (.int 44) ⟨258,39,258,41⟩, .cst (.int 27) (.int 27) ⟨258,43,258,45⟩] ⟨258,31,258,46⟩] [] ⟨258,12,258,22⟩ ⟨258,12,258,47⟩) ⟨258,4,258,47⟩) ::
   ((b20.drop 1).take 2 ++ (S.asg (.tup [(85, ⟨261,4,261,13⟩), (86, ⟨261,15,261,20⟩), (119, ⟨261,22,261,27⟩)] ⟨261,4,261,27⟩) (.gcall 13 91 [.var 83 ⟨261,39,261,43⟩, .var 84 ⟨261,45,261,49⟩] [] ⟨261,30,261,38⟩ ⟨261,30,261,50⟩) ⟨261,4,261,50⟩) :: b20.drop 4) := rfl
 rw [hk, toSs]
 have J : SndC 61 (lvlO 29).cl := fun f vs ks b w fn fa o fd A vals kvals hf F h13 h20 R => (snd_O ok 29).cl f vs ks b w fn fa o fd A vals kvals hf F h13 h20 (R.le (by decide))
 refine wpAny_execs_cons (x_first (K := KL fa L R hT) (V := lvlO 29) (z := ([(73, .frz (xs.map .int)), (116, .ref 7)], H8 [.int c0, .int c1, .int c2, .int c3])) ok J ht (show isG f20.kd 81 = true by decide +kernel) (show isLoc f20.kd 73 = true by decide +kernel) (show stok f20.kd 116 = true by decide +kernel) (a := .frz (xs.map .int)) rfl (hH ▸ e0) rfl c _ E fun w1 l1 eH c1' => ?_)
 have hfl1 : w1.s.heap.FunFrames base0 [(KL fa L R hT).env] := by
  obtain ⟨hk0, ⟨L', o, hf, hn, ho, hdd⟩, hlr⟩ := hfl
  obtain rfl : L = L' := Option.some.inj ((show (KL fa L R hT).env.frame = some L from rfl).symm.trans hf)
  obtain ⟨mm, ns, _⟩ := c1'.F
  exact .cons hk0 rfl ns hn trivial
 have okp : okSs C0.P f20.kd 1 ((b20.drop 1).take 2) = true := by rw [ok.P]; decide +kernel
 have oks : okSs C0.P f20.kd 1 (b20.drop 4) = true := by rw [ok.P]; decide +kernel
 have oka : okXs (KL fa L R hT) [.var 83 ⟨261,39,261,43⟩, .var 84 ⟨261,45,261,49⟩] := by show Mine.oks C0.P f20.kd 1 _ = true; rw [ok.P]; decide +kernel
 have hx' : exS (lvl C0.P 40) b13 [(83, .int d.size), (84, .int d.step)] [] 8 (H8 [.int c0, .int c1, .int c2, .int c3]) = some (.rt v', lo9, H3) := by rw [ok.P]; exact hx
 refine law_body (K := KL fa L R hT) (w := w1) (V := lvlO 30) (n := 60) (m := 38) (snd_O ok 30) ok (Nat.le_refl 61) (by decide) ((KL fa L R hT).R.le (by show 42 ≤ 61; decide)) okp oks oka (show Tg.ok f20.kd (.tup [(85, ⟨261,4,261,13⟩), (86, ⟨261,15,261,20⟩), (119, ⟨261,22,261,27⟩)] ⟨261,4,261,27⟩) = true by decide +kernel) (show isG f20.kd 91 = true by decide +kernel) (eH ▸ e1) e2 hx' r13 hs e5 (Around.frames_deeper rfl) rfl hfl1 c1' Q E fun w2 fl l2 q => ?_
 obtain ⟨_, _, q⟩ := q
 cases fl <;> first | (exact q.elim) | skip
 obtain rfl : _ = Value.bool true := q
 exact k w2 (l1.trans l2)
end
theorem frz_rel {U : Addr → Prop} {ρ : List Addr} {h : Heap} {vs : List Value} {xs : List Int} (I : IntsAre vs xs) : VRels U ρ h (xs.map .int) vs := by
 induction I with
 | nil => exact rfl
 | cons n t r ih => exact ⟨_, _, rfl, ⟨t, rfl⟩, ih⟩
noncomputable def rho7 (L : Addr) : List Addr := [L + 1, L + 1 + 1, L + 1 + 1 + 1, L + 1 + 1 + 1 + 1, L + 1 + 1 + 1 + 1 + 1, L + 1 + 1 + 1 + 1 + 1 + 1, L + 1 + 1 + 1 + 1 + 1 + 1 + 1]
theorem rho7_at {L : Nat} (i a : Nat) (e : (rho7 L)[i]? = some a) : i < 7 ∧ a = L + 1 + i := by
 rcases i with _ | _ | _ | _ | _ | _ | _ | i
 all_goals first | exact ⟨by decide, (Option.some.inj e).symm⟩ | exact nomatch e
theorem lk7 (L : Addr) : ceL.map (fun x => (cellsFrom (L + 1) (scopeOf f20.kd f20.mo).names []).lookup (nm x.1)) = ceL.map fun x => (rho7 L)[x.2]? := by kernel_rfl
theorem lk7s (L : Addr) : ceL.map (fun x => ((rho7 L)[x.2]?).isSome) = ceL.map fun x => true := by kernel_rfl
theorem good_C0 (hP : C0.P = fns) (hT : C0.T = T3) : Good C0 := by
 intro K p loose mean L lst m vs xs s o0 o1 o2 o3 o4 o5 o6 j fa Q E kont
 have ok : Ok0 := cx_ok j.X j.T j.k hP hT
 have BL : C0.B.get? L = none := Heap.get?_none_of_le j.F.above
 have R0 : Rm callerA 62 := ⟨rfl, by decide, by decide⟩
 have news : ∀ (i : Nat) (a : Addr), (rho7 L)[i]? = some a → ∃ o : Obj, (a, o) ∈ [(L + 1 + 1 + 1 + 1 + 1 + 1 + 1, o6), (L + 1 + 1 + 1 + 1 + 1 + 1, o5), (L + 1 + 1 + 1 + 1 + 1, o4), (L + 1 + 1 + 1 + 1, o3), (L + 1 + 1 + 1, o2), (L + 1 + 1, o1), (L + 1, o0), (44, tabObj #[]), (37, tabObj #[]), (159, tabObj #[])] ∧ o.data = .cell none := fun i a e => by
  have z := j.cells
  rcases i with _ | _ | _ | _ | _ | _ | _ | i
  ·obtain rfl := Option.some.inj e; exact ⟨o0, nth_mem (k := 6) rfl, z _ (nth_mem (k := 0) rfl)⟩
  ·obtain rfl := Option.some.inj e; exact ⟨o1, nth_mem (k := 5) rfl, z _ (nth_mem (k := 1) rfl)⟩
  ·obtain rfl := Option.some.inj e; exact ⟨o2, nth_mem (k := 4) rfl, z _ (nth_mem (k := 2) rfl)⟩
  ·obtain rfl := Option.some.inj e; exact ⟨o3, nth_mem (k := 3) rfl, z _ (nth_mem (k := 3) rfl)⟩
  ·obtain rfl := Option.some.inj e; exact ⟨o4, nth_mem (k := 2) rfl, z _ (nth_mem (k := 4) rfl)⟩
  ·obtain rfl := Option.some.inj e; exact ⟨o5, nth_mem (k := 1) rfl, z _ (nth_mem (k := 5) rfl)⟩
  ·obtain rfl := Option.some.inj e; exact ⟨o6, nth_mem (k := 0) rfl, z _ (nth_mem (k := 6) rfl)⟩
  ·exact nomatch e
 have h0 : ∀ (i : Nat) ob, i < 7 → nth H0 i = some ob → ob = .cell none := fun i ob hi e => by
  rcases i with _ | _ | _ | _ | _ | _ | _ | i
  all_goals first | exact (Option.some.inj e).symm | exact nomatch e
 have S : SRel (fun _ => False) (rho7 L) H0 s.heap := by
  refine ⟨j.F.keep, fun i a e => ?_, fun i k a e e' => ?_, rfl, fun i a ob e eo => ?_, fun x hx' => ?_, fun a q => q.elim⟩
  ·obtain ⟨o, ho, _⟩ := news i a e
   exact (j.N _ ho).2.2
  ·exact Nat.add_left_cancel ((rho7_at i a e).2.symm.trans (rho7_at k a e').2)
  ·obtain ⟨o, ho, hd⟩ := news i a e
   obtain rfl := h0 i ob (rho7_at i a e).1 eo
   exact ⟨o, none, (j.N _ ho).1, hd, fun _ q => nomatch q⟩
  ·have n : ∀ {a : Addr} {k : Nat}, nth _ k = some (a, tabObj #[]) → _ := fun {a k} e => j.N (a, tabObj #[]) (nth_mem (k := k) e)
   have tb : ∀ {x : Addr × Addr × Str} {k : Nat}, CodeHd C0.B x.1 x.2.1 → nth [(L + 1 + 1 + 1 + 1 + 1 + 1 + 1, o6), (L + 1 + 1 + 1 + 1 + 1 + 1, o5), (L + 1 + 1 + 1 + 1 + 1, o4), (L + 1 + 1 + 1 + 1, o3), (L + 1 + 1 + 1, o2), (L + 1 + 1, o1), (L + 1, o0), (44, tabObj #[]), (37, tabObj #[]), (159, tabObj #[])] k = some (x.2.1, tabObj #[]) → C0.B.get? x.2.1 = none ∧ CodeHd C0.B x.1 x.2.1 ∧ ∃ ps, TabOk s.heap x ps := fun hc e => ⟨(n e).2.2, hc, #[], (n e).1, trivial, fun pos cv e => nomatch e⟩
   exact all_at (P := fun x => C0.B.get? x.2.1 = none ∧ CodeHd C0.B x.1 x.2.1 ∧ ∃ ps, TabOk s.heap x ps) T3 ⟨tb (k := 7) j.c1 rfl, tb (k := 8) j.c2 rfl, tb (k := 9) j.c3 rfl, trivial⟩ (hT ▸ hx')
 have c : Conf (KL fa L R0 hT) [(73, .frz (xs.map .int))] ⟨fun _ => False, rho7 L, H0, { s with toks := s.toks + 1 }, S, Nat.succ_pos _⟩ := by
  refine ⟨⟨m, j.F.ns, fun k v e => ?_⟩, fun k i e => ?_, BL, fun i e => ?_, ?_⟩
  ·have e : (match Nat.beq 73 k with | true => some (AV.frz (xs.map .int)) | false => none) = some v := e
   cases q : Nat.beq 73 k with
   | false => rw [q] at e; exact nomatch e
   | true =>
    rw [q] at e
    obtain rfl := Nat.eq_of_beq_eq_true q
    obtain rfl := sI1 e
    obtain ⟨o, g1, g2, n, g3⟩ := j.hl
    exact ⟨_, j.hm, _, _, _, n, rfl, g1, g2, g3, frz_rel j.hI⟩
  ·have h2 := map_at (f := fun x : Nat × Nat => (cellsFrom (L + 1) (scopeOf f20.kd f20.mo).names []).lookup (nm x.1)) (g := fun x => (rho7 L)[x.2]?) (lk7 L) (k, i) (lkp_mem e)
   have h3 := map_at (f := fun x : Nat × Nat => ((rho7 L)[x.2]?).isSome) (g := fun x => true) (lk7s L) (k, i) (lkp_mem e)
   obtain ⟨a, ha⟩ := Option.isSome_iff_exists.mp h3
   exact ⟨a, ha, h2.trans ha⟩
  ·have h1 : L = L + 1 + i := (rho7_at i L e).2
   exact absurd h1 (Nat.ne_of_lt (Nat.lt_of_lt_of_le (Nat.lt_succ_self L) (Nat.le_add_right _ _)))
  ·rintro ⟨x, hx', q⟩
   exact all_at (P := fun x => x.2.1 ≠ L) T3 ⟨Nat.ne_of_lt j.hL.1, Nat.ne_of_lt j.hL.2.1, Nat.ne_of_lt j.hL.2.2, trivial⟩ (hT ▸ hx') q
 have hfl : s.heap.FunFrames C0.B [(KL fa L R0 hT).env] := .cons (fun q => nomatch q) rfl j.F.ns BL trivial
 have h := law_walk (R := R0) ok hT j.hx hfl (tk := s.toks) rfl rfl c Q E fun w' l => by
  have e := l.s
  rw [e]
  refine kont w'.s.heap w'.s.toks w'.S.base ?_
  have gr : ∀ x ∈ T3, GrownAt x.2.1 w'.s.heap := fun x hx' => by
   obtain ⟨_, _, ps, t⟩ := w'.S.tabs x (hT.symm ▸ hx')
   exact ⟨ps, t.at_⟩
  exact ⟨gr _ (.head _), gr _ (.tail _ (.head _)), gr _ (.tail _ (.tail _ (.head _))), trivial⟩
 exact h
theorem law_join {K : Frag} {prog : Program} {w : World} {B : Heap} {mg mb : Str → Option Value} {p : Program} {loose : List Str} {mean : ExcName → Option Value} {L fa lst : Addr} {name : Str} {scope : Scope} {body : List PySem.Stmt} {m : Str → Option Value}
  {vs : List Value} {xs : List Int} {s : Shared} {o0 o1 o2 o3 o4 o5 o6 : Obj} (X : K.In B) (T : Top p loose mean mg mb B) (k : KOk K) (hn : name = nm 149) (hs : scope = scopeOf f20.kd f20.mo) (hb : body = toSs b20)
  (F : Fr B L s.heap m) (hm : m (nm 73) = some (.ref lst)) (hl : B.IsList lst vs.toArray) (hI : IntsAre vs xs) (hx : xs.length < 64) (c1 : CodeHd B 48 44) (c2 : CodeHd B 41 37) (c3 : CodeHd B 161 159)
  (N : News B L s.heap [(L + 1 + 1 + 1 + 1 + 1 + 1 + 1, o6), (L + 1 + 1 + 1 + 1 + 1 + 1, o5), (L + 1 + 1 + 1 + 1 + 1, o4), (L + 1 + 1 + 1 + 1, o3), (L + 1 + 1 + 1, o2), (L + 1 + 1, o1), (L + 1, o0), (44, tabObj #[]), (37, tabObj #[]), (159, tabObj #[])])
  (e6 : o6.data = .cell none) (e5 : o5.data = .cell none) (e4 : o4.data = .cell none) (e3 : o3.data = .cell none) (e2 : o2.data = .cell none) (e1 : o1.data = .cell none) (e0 : o0.data = .cell none)
  (hL : 44 < L ∧ 37 < L ∧ 159 < L) (Q : Flow → Shared → Prop) (E : Value → Shared → Prop)
  (kont : ∀ h' tk, (∀ b o, B.get? b = some o → h'.get? b = some o) → GrownAll [(48, 44), (41, 37), (161, 159)] h' → Q (.ret (.bool true)) { s with heap := h', toks := tk }) :
  wpAny (model prog w) (callerA.deeper (envOfC name scope L fa (.ref 161))) (execs body (envOfC name scope L fa (.ref 161))) Q E s := by
 subst hn hs hb
 have hc : ∀ o ∈ [o0, o1, o2, o3, o4, o5, o6], o.data = .cell none := List.forall_mem_cons.mpr ⟨e0, List.forall_mem_cons.mpr ⟨e1, List.forall_mem_cons.mpr ⟨e2, List.forall_mem_cons.mpr ⟨e3, List.forall_mem_cons.mpr ⟨e4, List.forall_mem_cons.mpr ⟨e5, List.forall_mem_cons.mpr ⟨e6, List.forall_mem_nil _⟩⟩⟩⟩⟩⟩⟩
 have J : JoinP ⟨prog, w, B, mg, mb, fns, T3⟩ K p loose mean L lst m vs xs s.heap o0 o1 o2 o3 o4 o5 o6 := ⟨X, T, k, F, hm, hl, hI, hx, c1, c2, c3, N, hc, hL⟩
 have G : Good ⟨prog, w, B, mg, mb, fns, T3⟩ := good_all good_C0 rfl rfl
 exact G K p loose mean L lst m vs xs s o0 o1 o2 o3 o4 o5 o6 J fa Q E kont
theorem good_true {c : ClaimW} {cl : Str → Option Addr} {mean : ExcName → Option Value} {args : List WData} {s₁ s' : Shared} (hk : ∀ b o, s₁.heap.get? b = some o → s'.heap.get? b = some o) (hg : s'.gens = #[]) (hn : ∀ cls, c.raises args cls = false)
  (hp : c.post args (.bool true) args = true) (hos : s'.os = s₁.os) : GoodW c cl mean args s₁ (.ok (.ret (.bool true))) s' := ⟨.inl ⟨_, _, _, rfl, hn, .bool true, hp, unshared_nil⟩, hk, hos, hg⟩
end Mine
end
section
open PySem PySem.W PyProof.Rows
namespace Mine
noncomputable def deK (P : Params) (s : String) (t : Nat) (v : Value) : DictEntry := { hash := PyData.keyHash P (Str.ofString s), key := .str (Str.ofString s) t, val := v }
noncomputable def coK (f : Fn) (t ln n k r8 r11 : Nat) (v13 v14 : Value) (r15 u : Nat) : Obj := { cls := .type "code", data := .fields #[.str (nm f.nmk) t, .str (nm f.nmk) (t + 1), .str (Str.ofString "/claim/cut.py") (t + 2), .int ln 0, .int n 0, .int 0 0, .int k 0, .int 3 0, .ref r8, .bool true, .int 181 0, .ref r11, .none, v13, v14, .ref r15, .int u 0, .int ln 0, .str (Str.ofString "/claim/cut.py") (u + 1)] }
noncomputable def foK (f : Fn) (c : Nat) (df kw : Value) (pm : String) (t : Nat) : Obj := { cls := .type "function", data := .func { name := nm f.nmk, qualname := nm f.nmk, params := f.args, body := .stmts (toSs f.body), scope := scopeOf f.kd f.mo, globals := 3, closure := [], defaults := df, kwdefaults := kw, pyModule := .str (Str.ofString pm) t, code := .ref c } }
noncomputable def mainK (P : Params) : Obj := { cls := .type "dict", data := .dict #[deK P "__name__" 165 (.str (Str.ofString "law_uy0017_01") 381), deK P "__doc__" 166 (.none), deK P "__package__" 167 (.none), deK P "__loader__" 168 (.builtin "__main__.__loader__#opaque"), deK P "__spec__" 169 (.none), deK P "__annotations__" 170 (.ref 6), deK P "__builtins__" 171 (.ref 4), deK P "__file__" 173 (.str (Str.ofString "/claim/cut.py") 172), deK P "__cached__" 174 (.none), deK P "ELLIPSIS_MARKER" 190 (.str (Str.ofString "...") 189), deK P "_ellipsis_match" 202 (.ref 21), deK P "_DIV_LIMIT" 206 (.int 4000 205), deK P "_div2n1n" 223 (.ref 28), deK P "_div3n2n" 237 (.ref 35), deK P "_int2digits" 248 (.ref 42), deK P "_digits2int" 259 (.ref 49), deK P "_divmod_pos" 274 (.ref 56), deK P "int_divmod" 284 (.ref 63), deK P "insort_right" 299 (.ref 72), deK P "bisect_right" 313 (.ref 81), deK P "bisect_left" 327 (.ref 90), deK P "rgb_to_hls" 348 (.ref 97), deK P "rgb_to_hsv" 366 (.ref 104), deK P "hsv_to_rgb" 380 (.ref 111), deK P "_law_cells" 388 (.ref 116), deK P "_law_run" 402 (.ref 123), deK P "_law_worths" 411 (.ref 130), deK P "_law_numerals" 417 (.ref 135), deK P "_law_sum" 423 (.ref 140), deK P "_law_by_turns" 429 (.ref 145), deK P "_law_figures" 440 (.ref 152), deK P "_law_as_great" 446 (.ref 157), deK P "law" 452 (.ref 162)] 33 }
noncomputable def K9 (P : Params) : Frag := (nat_lit 2, { cls := .none, data := .dict #[] }) :: (nat_lit 3, mainK P) :: (nat_lit 20, coK f0 191 3 2 0 15 16 (.ref 17) (.ref 18) 19 200) :: (nat_lit 21, foK f0 20 (.none) (.none) "cpy313.doctest" 187) :: (nat_lit 27, coK f1 207 33 3 0 22 23 (.ref 24) (.ref 25) 26 221) :: (nat_lit 28, foK f1 27 (.none) (.none) "cpy313._pylong" 203) :: (nat_lit 41, coK f2 238 59 2 0 36 37 (.ref 38) (.ref 39) 40 246) :: (nat_lit 42, foK f2 41 (.none) (.none) "cpy313._pylong" 203) :: (nat_lit 48, coK f3 249 75 2 0 43 44 (.ref 45) (.ref 46) 47 257) :: (nat_lit 49, foK f3 48 (.none) (.none) "cpy313._pylong" 203) :: (nat_lit 55, coK f4 260 84 2 0 50 51 (.ref 52) (.ref 53) 54 272) :: (nat_lit 56, foK f4 55 (.none) (.none) "cpy313._pylong" 203) :: (nat_lit 62, coK f5 275 95 2 0 57 58 (.ref 59) (.ref 60) 61 282) :: (nat_lit 63, foK f5 62 (.none) (.none) "cpy313._pylong" 203) :: (nat_lit 64, { cls := .type "tuple", data := .seq #[.int 0 287, .none] }) :: (nat_lit 71, coK f6 289 107 4 1 66 67 (.ref 68) (.ref 69) 70 297) :: (nat_lit 72, foK f6 71 (.ref 64) (.ref 65) "cpy313.bisect" 285) :: (nat_lit 73, { cls := .type "tuple", data := .seq #[.int 0 300, .none] }) :: (nat_lit 80, coK f7 302 113 4 1 75 76 (.ref 77) (.ref 78) 79 311) :: (nat_lit 81, foK f7 80 (.ref 73) (.ref 74) "cpy313.bisect" 285) :: (nat_lit 82, { cls := .type "tuple", data := .seq #[.int 0 314, .none] }) :: (nat_lit 89, coK f8 316 133 4 1 84 85 (.ref 86) (.ref 87) 88 325) :: (nat_lit 90, foK f8 89 (.ref 82) (.ref 83) "cpy313.bisect" 285) :: (nat_lit 96, coK f9 330 154 3 0 91 92 (.ref 93) (.ref 94) 95 346) :: (nat_lit 97, foK f9 96 (.none) (.none) "cpy313.colorsys" 328) :: (nat_lit 103, coK f10 349 177 3 0 98 99 (.ref 100) (.ref 101) 102 364) :: (nat_lit 104, foK f10 103 (.none) (.none) "cpy313.colorsys" 328) :: (nat_lit 110, coK f11 367 196 3 0 105 106 (.ref 107) (.ref 108) 109 378) :: (nat_lit 111, foK f11 110 (.none) (.none) "cpy313.colorsys" 328) :: (nat_lit 115, coK f12 383 218 2 0 112 113 (.none) (.none) 114 386) :: (nat_lit 116, foK f12 115 (.none) (.none) "law_uy0017_01" 381) :: (nat_lit 122, coK f13 389 221 2 0 117 118 (.ref 119) (.ref 120) 121 400) :: (nat_lit 123, foK f13 122 (.none) (.none) "law_uy0017_01" 381) :: (nat_lit 129, coK f14 403 231 1 0 124 125 (.ref 126) (.ref 127) 128 409) :: (nat_lit 130, foK f14 129 (.none) (.none) "law_uy0017_01" 381) :: (nat_lit 134, coK f15 412 236 1 0 131 132 (.none) (.none) 133 415) :: (nat_lit 135, foK f15 134 (.none) (.none) "law_uy0017_01" 381) :: (nat_lit 139, coK f16 418 245 2 0 136 137 (.none) (.none) 138 421) :: (nat_lit 140, foK f16 139 (.none) (.none) "law_uy0017_01" 381) :: (nat_lit 144, coK f17 424 247 1 0 141 142 (.none) (.none) 143 427) :: (nat_lit 145, foK f17 144 (.none) (.none) "law_uy0017_01" 381) :: (nat_lit 151, coK f18 430 249 2 0 146 147 (.ref 148) (.ref 149) 150 438) :: (nat_lit 152, foK f18 151 (.none) (.none) "law_uy0017_01" 381) :: (nat_lit 156, coK f19 441 255 2 0 153 154 (.none) (.none) 155 444) :: (nat_lit 157, foK f19 156 (.none) (.none) "law_uy0017_01" 381) :: (nat_lit 161, coK f20 447 257 1 0 158 159 (.none) (.none) 160 450) :: (nat_lit 162, foK f20 161 (.none) (.none) "law_uy0017_01" 381) :: []
noncomputable def as9 : List Addr := [2, 3, 20, 21, 27, 28, 41, 42, 48, 49, 55, 56, 62, 63, 64, 71, 72, 73, 80, 81, 82, 89, 90, 96, 97, 103, 104, 110, 111, 115, 116, 122, 123, 129, 130, 134, 135, 139, 140, 144, 145, 151, 152, 156, 157, 161, 162]
theorem k9_ok (P : Params) : KOk (K9 P) := ⟨by kernel_rfl, by kernel_rfl, by kernel_rfl, by kernel_rfl, by kernel_rfl⟩
noncomputable def q9 : Program := view PySem.Challenge.pw_uy0017_01 [1, 2, 4, 5, 6, 7, 8, 9, 10, 16, 17, 18, 20, 21, 22, 23, 24, 25, 26, 27, 28]
theorem as9_is (P : Params) : as9 = (K9 P).map (·.1) := by kernel_rfl
noncomputable def lo9s : List Str := [Str.ofString "insort_right", Str.ofString "bisect_right", Str.ofString "bisect_left"]
theorem left9 (w : World) : (openEnds treeTable PySem.Challenge.pw_uy0017_01 w 1730).map (fun s => (openSeen q9 lo9s (importedModules PySem.Challenge.pw_uy0017_01.main.body) (fun s => xlAt q9 [] s && recOk (RowW.records PySem.Challenge.rw_uy0017_01.row.toRowW) s) true s, (as9.map s.heap.get?, [44, 37, 159].map s.heap.get?))) =
  some (openGood q9 lo9s, (((K9 w.params).map fun p => some p.2), [44, 37, 159].map fun _ => some (tabObj #[]))) := by kernel_rfl
end Mine
end
open PySem PySem.W PyProof.Rows Mine
set_option maxRecDepth 100000 in
set_option maxHeartbeats 8000000 in
theorem PySem.Challenge.cw_uy0017_01_holds : PySem.Challenge.rw_uy0017_01.Holds := by
  w_on
  refine holds_law (by unfold OpenLaw.wellSaid OpenRow.wellSaid OpenRow.partSaid looksOpen; (repeat' with_reducible refine look_both ?_ ?_) <;> decide +kernel) fun said => ?_
  refine holds_open (q := q9) (loose := lo9s) (Xt := fun s => xlAt q9 [] s && recOk (RowW.records PySem.Challenge.rw_uy0017_01.row.toRowW) s) (XP := XL q9 []) (Yf := Hook.obs (kmHook K9 as9 as9_is [44, 37, 159])) (Ya := Hook.val (kmHook K9 as9 as9_is [44, 37, 159])) (YP := Hook.says (kmHook K9 as9 as9_is [44, 37, 159])) (N := 1730) left9 (Hook.of (kmHook K9 as9 as9_is [44, 37, 159])) (Hook.keeps (kmHook K9 as9 as9_is [44, 37, 159])) (fun s e => xl_of s (Bool.and_eq_true_iff.mp e).1) XL.keeps (by rfl) (by rfl) (by rfl) (fun s e => recFacts_of (Bool.and_eq_true_iff.mp e).2) (by rfl) (by first | assumption | decide +kernel) (by decide +kernel) ⟨rfl, rfl, rfl, rfl, rfl, by decide +kernel⟩ ?hw ?hc
  case hw => w_witness2
  case hc =>
    w_strict (
      k_go0
      rename_i hI hr hc1 hc2 hD h1 tk1 o6 o5 o4 o3 o2 o1 o0 d6 d5 d4 d3 d2 d1 d0 X0 XK TK KK FF ca cb NN l0
      refine law_join XK TK (k9_ok _) ?jjn ?jjs ?jjb FF ?jjm lifted hI ?jjx ca cb codeHd NN ?jj6 ?jj5 ?jj4 ?jj3 ?jj2 ?jj1 ?jj0 l0 _ _ ?jjq
      case jjn => kernel_rfl
      case jjs => kernel_rfl
      case jjb => kernel_rfl
      case jjm => kernel_rfl
      case jjx => omega
      case jj6 => exact d6.trans (by kernel_rfl)
      case jj5 => exact d5.trans (by kernel_rfl)
      case jj4 => exact d4.trans (by kernel_rfl)
      case jj3 => exact d3.trans (by kernel_rfl)
      case jj2 => exact d2.trans (by kernel_rfl)
      case jj1 => exact d1.trans (by kernel_rfl)
      case jj0 => exact d0.trans (by kernel_rfl)
      case jjq =>
        intro h' tk kp gr
        exact ⟨good_true kp (by assumption) (raisesW_false (by wrow_none_raised)) (by wrow_post) rfl, gr⟩)
