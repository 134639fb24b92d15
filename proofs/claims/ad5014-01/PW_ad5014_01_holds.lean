import PyProof.Rows.All
import Wide.All
import OpenK.AllK
import Wide.FinOn
import Lean
import PySem.Challenge.RW_ad5014_01
set_option Elab.async false

section
open PySem PySem.W PyProof.Rows
set_option Elab.async false
set_option maxRecDepth 100000
namespace Mine
set_option maxHeartbeats 8000000 in
open_top hd for PySem.Challenge.rw_ad5014_01
end Mine

end

section
set_option maxRecDepth 100000
namespace Mine.Flo
open PySem PySem.Float64

/-- the floats t < infMag that are n * 2^j, n < 2^53 -/
theorem rep (j : Nat) (hj : j ≤ 1074) : ∀ n : Nat, n < 2 ^ 53 → ∃ t, t < infMag ∧ V t = n * 2 ^ j := by
  induction j with
  | zero =>
    intro n hn
    by_cases h0 : n < 2 ^ 52
    · refine ⟨n, by unfold infMag; omega, ?_⟩
      unfold V
      rw [if_pos (by omega)]; omega
    · refine ⟨0 * 2 ^ 52 + n, by unfold infMag; omega, ?_⟩
      rw [V_at (by omega) (by omega)]
  | succ j ih =>
    intro n hn
    by_cases h0 : n < 2 ^ 52
    · obtain ⟨t, h1, h2⟩ := ih (by omega) (2 * n) (by omega)
      exact ⟨t, h1, by rw [h2, Nat.pow_succ]; ac_rfl⟩
    · refine ⟨(j + 1) * 2 ^ 52 + n, ?_, ?_⟩
      · unfold infMag; omega
      · rw [V_at (by omega) (by omega)]

theorem dist_self (a : Nat) : dist a a = 0 := by unfold dist; omega
theorem eq_of_dist {a b : Nat} (h : dist a b ≤ 0) : a = b := by unfold dist at h; omega

theorem V_inj {t t' : Nat} (h : V t = V t') : t = t' := by
  rcases Nat.lt_trichotomy t t' with h1 | h1 | h1
  · exact absurd h (Nat.ne_of_lt (V_lt h1))
  · exact h1
  · exact absurd h.symm (Nat.ne_of_lt (V_lt h1))

theorem small_not_over {W D j n : Nat} (hj : j ≤ 1074) (hn : n < 2 ^ 53) (hD : 0 < D) (hW : W ≤ D * (n * 2 ^ j)) : ¬ D * ((2 ^ 54 - 1) * 2 ^ 2045) ≤ 2 * W := by
  intro h
  have h1 : 2 * W ≤ D * (2 * (n * 2 ^ j)) := by
    calc 2 * W ≤ 2 * (D * (n * 2 ^ j)) := Nat.mul_le_mul_left _ hW
      _ = _ := by ac_rfl
  have h2 := Nat.le_of_mul_le_mul_left (Nat.le_trans h h1) hD
  have h3 : (2:Nat) ^ j ≤ 2 ^ 1074 := Nat.pow_le_pow_right (by decide) hj
  have h4 : n * 2 ^ j ≤ 2 ^ 53 * 2 ^ 1074 := Nat.mul_le_mul (by omega) h3
  have h5 : 2 * (2 ^ 53 * 2 ^ 1074) < (2 ^ 54 - 1) * 2 ^ 2045 := by decide +kernel
  omega

/-- a magnitude is rounded between the grid's points -/
theorem right_fin {r : UInt64} {neg : Bool} {W D j n : Nat} (h : Right r neg W D) (hj : j ≤ 1074) (hn : n < 2 ^ 53) (hD : 0 < D) (hW : W ≤ D * (n * 2 ^ j)) :
    ∃ t, r = pack neg t ∧ t < infMag ∧ V t ≤ n * 2 ^ j ∧ ∀ i k, i ≤ 1074 → k < 2 ^ 53 → (D * (k * 2 ^ i) ≤ W → k * 2 ^ i ≤ V t) ∧ (W ≤ D * (k * 2 ^ i) → V t ≤ k * 2 ^ i) := by
  obtain ⟨t, hr, hle, hiff, hnear⟩ := h
  have hlt : t < infMag := by
    rcases Nat.lt_or_ge t infMag with h | h
    · exact h
    · exact absurd (hiff.mp (by omega)) (small_not_over hj hn hD hW)
  have key : ∀ i k, i ≤ 1074 → k < 2 ^ 53 → (D * (k * 2 ^ i) ≤ W → k * 2 ^ i ≤ V t) ∧ (W ≤ D * (k * 2 ^ i) → V t ≤ k * 2 ^ i) := by
    intro i k hi hk
    obtain ⟨t', _, hV⟩ := rep i hi k hk
    rw [← hV]
    have hd := (hnear hlt t').1
    constructor
    · intro hle
      rcases Nat.lt_or_ge (V t) (V t') with h | h
      · exfalso
        have := Nat.mul_lt_mul_of_pos_left h hD
        unfold dist at hd
        omega
      · exact h
    · intro hle
      rcases Nat.lt_or_ge (V t') (V t) with h | h
      · exfalso
        have := Nat.mul_lt_mul_of_pos_left h hD
        unfold dist at hd
        omega
      · exact h
  exact ⟨t, hr, hlt, (key j n hj hn).2 hW, key⟩

/-- the same, signed: S is the exact value times D -/
theorem right_grid {r : UInt64} {neg : Bool} {W D j n : Nat} (h : Right r neg W D) (hj : j ≤ 1074) (hn : n < 2 ^ 53) (hD : 0 < D) (hW : W ≤ D * (n * 2 ^ j)) :
    ∃ m e, decode r = .fin neg m e ∧ ∀ (i : Nat) (g : Int), i ≤ 1074 → g.natAbs < 2 ^ 53 →
      ((D : Int) * (g * (2 ^ i : Nat)) ≤ sgn neg W → g * (2 ^ i : Nat) ≤ val r) ∧ (sgn neg W ≤ (D : Int) * (g * (2 ^ i : Nat)) → val r ≤ g * (2 ^ i : Nat)) := by
  obtain ⟨t, hr, hlt, _, key⟩ := right_fin h hj hn hD hW
  obtain ⟨m, e, hdec, _⟩ := decode_pack neg hlt
  refine ⟨m, e, by rw [hr]; exact hdec, ?_⟩
  intro i g hi hg
  have hv : val r = sgn neg (V t) := by rw [hr]; exact val_pack neg hlt
  have k1 := key i g.natAbs hi hg
  have hp : 0 < 2 ^ i := Nat.two_pow_pos i
  rw [hv]
  generalize 2 ^ i = P at *
  generalize V t = v at *
  have z1 : g.natAbs = 0 → g = 0 := by omega
  have e1 : ((g.natAbs * P : Nat) : Int) = (g.natAbs : Int) * (P : Int) := by simp
  have e2 : ((D * (g.natAbs * P) : Nat) : Int) = (D : Int) * ((g.natAbs : Int) * (P : Int)) := by simp
  rcases (by omega : g < 0 ∨ 0 ≤ g) with hg0 | hg0
  · have eg : (g.natAbs : Int) = -g := by omega
    rw [eg, Int.neg_mul] at e1 e2
    rw [Int.mul_neg] at e2
    have neg1 : g * (P : Int) < 0 := Int.mul_neg_of_neg_of_pos hg0 (by omega)
    have neg2 : (D : Int) * (g * P) < 0 := Int.mul_neg_of_pos_of_neg (by omega) neg1
    generalize g * (P : Int) = gp at *
    generalize (D : Int) * gp = dgp at *
    cases neg with
    | true =>
      simp only [sgn, if_true]
      constructor <;> intro h1
      · have := k1.2 (by omega); omega
      · have := k1.1 (by omega); omega
    | false =>
      simp only [sgn, Bool.false_eq_true, if_false]
      constructor <;> intro h1
      · omega
      · omega
  · have eg : (g.natAbs : Int) = g := by omega
    rw [eg] at e1 e2
    have pos1 : 0 ≤ g * (P : Int) := Int.mul_nonneg hg0 (by omega)
    have pos2 : 0 ≤ (D : Int) * (g * P) := Int.mul_nonneg (by omega) pos1
    have z2 : (D : Int) * (g * P) = 0 → g * (P : Int) = 0 := by
      intro hz
      rcases Int.mul_eq_zero.mp hz with hz | hz
      · omega
      · exact hz
    generalize g * (P : Int) = gp at *
    generalize (D : Int) * gp = dgp at *
    cases neg with
    | true =>
      simp only [sgn, if_true]
      constructor <;> intro h1
      · have := k1.2 (by omega); omega
      · omega
    | false =>
      simp only [sgn, Bool.false_eq_true, if_false]
      constructor <;> intro h1
      · exact Int.le_trans (by omega) (Int.ofNat_le.mpr (k1.1 (by omega)))
      · have := k1.2 (by omega); omega

end Mine.Flo

end

section
set_option maxRecDepth 100000
namespace Mine.Flo
open PySem PySem.Float64

/-- the float n / 2 -/
@[irreducible] def hf (n : Int) : UInt64 := ofFrac (decide (n < 0)) n.natAbs 2

theorem pow73 : (2 : Nat) ^ 1074 = 2 ^ 1073 * 2 := Nat.pow_succ 2 1073

theorem hf_right (n : Int) : Right (hf n) (decide (n < 0)) (n.natAbs * 2 ^ 1073) 1 := by
  unfold hf
  exact ofFrac_right (by decide) (by rw [pow73, Nat.mul_one, Nat.mul_assoc]) (by decide)

theorem right_eq {r r' : UInt64} {neg : Bool} {W D n : Nat} (h : Right r neg W D) (h' : Right r' neg (n * 2 ^ 1073) 1) (hn : n < 2 ^ 53) (hD : 0 < D) (hW : W = D * (n * 2 ^ 1073)) : r = r' := by
  obtain ⟨t, hr, _, _, k1⟩ := right_fin h (j := 1073) (by decide) hn hD (by omega)
  obtain ⟨t', hr', _, _, k2⟩ := right_fin h' (j := 1073) (by decide) hn (by decide) (by omega)
  have a1 := (k1 1073 n (by decide) hn).1 (by omega)
  have a2 := (k1 1073 n (by decide) hn).2 (by omega)
  have b1 := (k2 1073 n (by decide) hn).1 (by omega)
  have b2 := (k2 1073 n (by decide) hn).2 (by omega)
  have : V t = V t' := by omega
  rw [hr, hr', V_inj this]

theorem right_hf {r : UInt64} {n : Int} {neg : Bool} {W D : Nat} (h : Right r neg W D) (hn : n.natAbs < 2 ^ 53) (hs : neg = decide (n < 0)) (hD : 0 < D) (hW : W = D * (n.natAbs * 2 ^ 1073)) : r = hf n := by
  subst hs
  exact right_eq h (hf_right n) hn hD hW

theorem sgn_hf (n : Int) (P : Nat) : sgn (decide (n < 0)) (n.natAbs * P) = n * P := by
  by_cases h : n < 0
  · rw [decide_eq_true h]
    simp only [sgn, if_true]
    have : (n.natAbs : Int) = -n := by omega
    rw [Int.natCast_mul, this, Int.neg_mul, Int.neg_neg]
  · rw [decide_eq_false h]
    simp only [sgn, Bool.false_eq_true, if_false]
    have : (n.natAbs : Int) = n := by omega
    rw [Int.natCast_mul, this]

theorem hf_fin {n : Int} (hn : n.natAbs < 2 ^ 53) : ∃ m e, decode (hf n) = .fin (decide (n < 0)) m e ∧ val (hf n) = n * (2 ^ 1073 : Nat) := by
  obtain ⟨m, e, hd, k⟩ := right_grid (hf_right n) (j := 1073) (n := n.natAbs) (by decide) hn (by decide) (by omega)
  refine ⟨m, e, hd, ?_⟩
  have k1 := k 1073 n (by decide) hn
  rw [sgn_hf] at k1
  have a := k1.1 (by omega)
  have b := k1.2 (by omega)
  omega

theorem mul_pos_iff (n : Int) (P : Nat) (hP : 0 < P) : (n * (P : Int) < 0 ↔ n < 0) ∧ (n * (P : Int) = 0 ↔ n = 0) ∧ (n * (P : Int)).natAbs = n.natAbs * P := by
  refine ⟨⟨fun h => ?_, fun h => Int.mul_neg_of_neg_of_pos h (by omega)⟩, ⟨fun h => ?_, fun h => by rw [h, Int.zero_mul]⟩, ?_⟩
  · rcases (by omega : n < 0 ∨ 0 ≤ n) with h1 | h1
    · exact h1
    · exact absurd (Int.mul_nonneg h1 (by omega : (0 : Int) ≤ P)) (by omega)
  · rcases Int.mul_eq_zero.mp h with h | h <;> omega
  · rw [Int.natAbs_mul, Int.natAbs_natCast]

theorem zero_hf : zero false = hf 0 := by decide +kernel

theorem add_hf {a b : Int} (ha : a.natAbs < 2 ^ 52) (hb : b.natAbs < 2 ^ 52) : add (hf a) (hf b) = hf (a + b) := by
  obtain ⟨m, e, hx, vx⟩ := hf_fin (n := a) (by omega)
  obtain ⟨k, f, hy, vy⟩ := hf_fin (n := b) (by omega)
  have h := add_right hx hy
  rw [vx, vy, ← Int.add_mul] at h
  have hP : 0 < 2 ^ 1073 := Nat.two_pow_pos _
  obtain ⟨q1, q2, q3⟩ := mul_pos_iff (a + b) (2 ^ 1073) hP
  by_cases h0 : a + b = 0
  · rw [h.1 (q2.mpr h0), h0, ← zero_hf]
    congr 1
    by_cases ha : a < 0
    · rw [decide_eq_false (by omega : ¬ b < 0)]; simp
    · rw [decide_eq_false ha]; simp
  · have h2 := h.2 (fun x => h0 (q2.mp x))
    refine right_hf h2 (by omega) ?_ (by decide) ?_
    · exact decide_eq_decide.mpr q1
    · rw [q3, Nat.one_mul]

theorem sub_hf {a b : Int} (ha : a.natAbs < 2 ^ 52) (hb : b.natAbs < 2 ^ 52) : sub (hf a) (hf b) = hf (a - b) := by
  obtain ⟨m, e, hx, vx⟩ := hf_fin (n := a) (by omega)
  obtain ⟨k, f, hy, vy⟩ := hf_fin (n := b) (by omega)
  have h := sub_right hx hy
  rw [vx, vy, ← Int.sub_mul] at h
  have hP : 0 < 2 ^ 1073 := Nat.two_pow_pos _
  obtain ⟨q1, q2, q3⟩ := mul_pos_iff (a - b) (2 ^ 1073) hP
  by_cases h0 : a - b = 0
  · rw [h.1 (q2.mpr h0), h0, ← zero_hf]
    congr 1
    by_cases ha : a < 0
    · rw [decide_eq_true (by omega : b < 0)]; simp
    · rw [decide_eq_false ha]; simp
  · have h2 := h.2 (fun x => h0 (q2.mp x))
    refine right_hf h2 (by omega) ?_ (by decide) ?_
    · exact decide_eq_decide.mpr q1
    · rw [q3, Nat.one_mul]

theorem ofInt_hf {n : Int} (hn : n.natAbs < 2 ^ 52) : ofInt n = hf (2 * n) := by
  refine right_hf (ofInt_right n) (by omega) ?_ (by decide) ?_
  · exact decide_eq_decide.mpr (by omega)
  · have : (2 * n).natAbs = 2 * n.natAbs := by omega
    rw [this, pow73, Nat.one_mul]
    ac_rfl

theorem mul_hf {a n : Int} (ha : a.natAbs < 2 ^ 30) (hn : 0 < n) (hn' : n < 2 ^ 20) (h0 : 0 ≤ a) : mul (hf a) (hf (2 * n)) = hf (a * n) := by
  obtain ⟨m, e, hx, vx⟩ := hf_fin (n := a) (by omega)
  obtain ⟨k, f, hy, vy⟩ := hf_fin (n := 2 * n) (by omega)
  have h := mul_right hx hy
  have hP : 0 < 2 ^ 1073 := Nat.two_pow_pos _
  obtain ⟨_, _, q3⟩ := mul_pos_iff a (2 ^ 1073) hP
  obtain ⟨_, _, p3⟩ := mul_pos_iff (2 * n) (2 ^ 1073) hP
  have hb : (a * n).natAbs = a.natAbs * n.natAbs := Int.natAbs_mul a n
  have hpos : 0 ≤ a * n := Int.mul_nonneg h0 (by omega)
  have hle : a.natAbs * n.natAbs ≤ 2 ^ 30 * 2 ^ 20 := Nat.mul_le_mul (by omega) (by omega)
  refine right_hf h (by rw [hb]; omega) ?_ (Nat.two_pow_pos _) ?_
  · rw [decide_eq_false (by omega : ¬ a < 0), decide_eq_false (by omega : ¬ 2 * n < 0), decide_eq_false (by omega : ¬ a * n < 0)]; rfl
  · have e2 : (2 * n).natAbs = 2 * n.natAbs := by omega
    rw [vx, vy, q3, p3, hb, e2, pow73]
    generalize 2 ^ 1073 = P
    ac_rfl

theorem cmp_scale (a b : Int) (P : Nat) (hP : 0 < P) : compare (a * (P : Int)) (b * P) = compare a b := by
  rcases Int.lt_trichotomy a b with h | h | h
  · rw [Int.compare_eq_lt.mpr h, Int.compare_eq_lt.mpr (Int.mul_lt_mul_of_pos_right h (by omega))]
  · subst h; simp
  · rw [Int.compare_eq_gt.mpr h, Int.compare_eq_gt.mpr (Int.mul_lt_mul_of_pos_right h (by omega))]

theorem cmp_hf {a b : Int} (ha : a.natAbs < 2 ^ 53) (hb : b.natAbs < 2 ^ 53) : cmp (hf a) (hf b) = some (compare a b) := by
  obtain ⟨m, e, hx, vx⟩ := hf_fin ha
  obtain ⟨k, f, hy, vy⟩ := hf_fin hb
  rw [cmp_right hx hy, vx, vy, cmp_scale _ _ _ (Nat.two_pow_pos _)]

theorem pow73i : (2 : Int) ^ 1074 = 2 * (2 ^ 1073 : Nat) := by
  rw [Int.pow_succ, Int.natCast_pow]
  omega

theorem cmpInt_hf {a : Int} (ha : a.natAbs < 2 ^ 53) (i : Int) : cmpInt (hf a) i = some (compare a (2 * i)) := by
  obtain ⟨m, e, hx, vx⟩ := hf_fin ha
  rw [cmpInt_right hx, vx, pow73i, ← Int.mul_assoc, Int.mul_comm i 2, cmp_scale _ _ _ (Nat.two_pow_pos _)]

end Mine.Flo

end

section
set_option maxRecDepth 100000
namespace Mine.Flo
open PySem PySem.Float64

theorem pow_cast (n : Nat) : ((2 ^ n : Nat) : Int) = (2 : Int) ^ n := by simp

theorem floor_val {x : UInt64} {s : Bool} {m : Nat} {e k : Int} (hx : decode x = .fin s m e) (h1 : k * (2 ^ 1074 : Nat) ≤ val x) (h2 : val x < (k + 1) * (2 ^ 1074 : Nat)) : floorOf s m e = k := by
  have he := decode_ge hx
  rw [val_eq hx, sgn_mul] at h1 h2
  unfold floorOf
  by_cases h : e ≥ 0
  · rw [if_pos h]
    have e1 : (e + 1074).toNat = e.toNat + 1074 := by omega
    rw [e1, Nat.pow_add, Int.natCast_mul, ← Int.mul_assoc, pow_cast e.toNat] at h1 h2
    have hP : (0 : Int) < (2 ^ 1074 : Nat) := Int.ofNat_lt.mpr (Nat.two_pow_pos _)
    generalize ((2 ^ 1074 : Nat) : Int) = P at *
    generalize sgn s m * (2 : Int) ^ e.toNat = z at *
    have a := Int.le_of_mul_le_mul_right h1 hP
    have b := Int.lt_of_mul_lt_mul_right h2 (by omega)
    omega
  · rw [if_neg h]
    have e1 : 1074 = (-e).toNat + (e + 1074).toNat := by omega
    have e2 : (2 ^ 1074 : Nat) = 2 ^ (-e).toNat * 2 ^ (e + 1074).toNat := by rw [← Nat.pow_add, ← e1]
    rw [e2, Int.natCast_mul, ← Int.mul_assoc] at h1 h2
    have hP : (0 : Int) < (2 ^ (e + 1074).toNat : Nat) := Int.ofNat_lt.mpr (Nat.two_pow_pos _)
    have hd : (0 : Int) < (2 ^ (-e).toNat : Nat) := Int.ofNat_lt.mpr (Nat.two_pow_pos _)
    rw [← pow_cast]
    generalize ((2 ^ (e + 1074).toNat : Nat) : Int) = P at *
    generalize ((2 ^ (-e).toNat : Nat) : Int) = d at *
    generalize sgn s m = z at *
    have a := Int.le_of_mul_le_mul_right h1 hP
    have b := Int.lt_of_mul_lt_mul_right h2 (by omega)
    rw [Int.fdiv_eq_ediv_of_nonneg _ (by omega)]
    have c1 := (Int.le_ediv_iff_mul_le hd).mpr a
    have c2 := Int.ediv_lt_of_lt_mul hd b
    omega

theorem ceil_val {x : UInt64} {s : Bool} {m : Nat} {e k : Int} (hx : decode x = .fin s m e) (h1 : (k - 1) * (2 ^ 1074 : Nat) < val x) (h2 : val x ≤ k * (2 ^ 1074 : Nat)) : ceilOf s m e = k := by
  have hn := neg_decode hx
  have hv := neg_val hx
  unfold ceilOf
  have : floorOf (!s) m e = -k := by
    refine floor_val hn ?_ ?_
    · rw [hv, Int.neg_mul]; omega
    · have e1 : (-k + 1) * ((2 ^ 1074 : Nat) : Int) = -((k - 1) * ((2 ^ 1074 : Nat) : Int)) := by rw [← Int.neg_mul]; congr 1; omega
      rw [hv, e1]; omega
  omega

theorem nearest_val {x : UInt64} {s : Bool} {m : Nat} {e k : Int} (hx : decode x = .fin s m e) (h1 : (2 * k - 1) * (2 ^ 1074 : Nat) < 2 * val x) (h2 : 2 * val x < (2 * k + 1) * (2 ^ 1074 : Nat)) : nearestOf s m e = k := by
  have he := decode_ge hx
  have hs := shift_one m e 1074 (by omega)
  have hd := shift_pos m 1 e (by decide)
  rw [val_eq hx] at h1 h2
  have hP : 0 < 2 ^ 1074 := Nat.two_pow_pos _
  have e1 : ((1074 : Nat) : Int) = 1074 := rfl
  rw [e1] at hs
  show sgn s (halfEven (shift m 1 e).1 (shift m 1 e).2) = k
  generalize (shift m 1 e).1 = n at *
  generalize (shift m 1 e).2 = d at *
  generalize m * 2 ^ (e + 1074).toNat = w at *
  generalize 2 ^ 1074 = P at *
  -- n * P = w * d
  have hh := halfEven_nearest n d hd k.natAbs
  have hq : halfEven n d = k.natAbs ∧ (halfEven n d = 0 ∨ (s = true ↔ k < 0)) := by
    -- (2|k|-1) d < 2 n < (2|k|+1) d
    have key : (2 * (k.natAbs : Int) - 1) * d < 2 * n ∧ 2 * (n : Int) < (2 * k.natAbs + 1) * d ∧ (k = 0 ∨ (s = true ↔ k < 0)) := by
      have hs' : (n : Int) * P = w * d := by exact_mod_cast hs
      have up : ∀ z : Int, 2 * (w : Int) < z * P → 2 * (n : Int) < z * d := by
        intro z hz
        have : 2 * (n : Int) * P < z * d * P := by
          have := Int.mul_lt_mul_of_pos_right hz (by omega : (0 : Int) < d)
          calc 2 * (n : Int) * P = 2 * (n * P) := by rw [Int.mul_assoc]
            _ = 2 * (w * d) := by rw [hs']
            _ = 2 * w * d := by rw [Int.mul_assoc]
            _ < z * P * d := this
            _ = z * d * P := by rw [Int.mul_assoc, Int.mul_comm (P : Int) d, ← Int.mul_assoc]
        exact Int.lt_of_mul_lt_mul_right this (by omega)
      have dn : ∀ z : Int, z * P < 2 * (w : Int) → z * d < 2 * (n : Int) := by
        intro z hz
        have : z * d * P < 2 * (n : Int) * P := by
          have := Int.mul_lt_mul_of_pos_right hz (by omega : (0 : Int) < d)
          calc z * d * P = z * P * d := by rw [Int.mul_assoc, Int.mul_comm (d : Int) P, ← Int.mul_assoc]
            _ < 2 * w * d := this
            _ = 2 * (w * d) := by rw [Int.mul_assoc]
            _ = 2 * (n * P) := by rw [hs']
            _ = 2 * (n : Int) * P := by rw [Int.mul_assoc]
        exact Int.lt_of_mul_lt_mul_right this (by omega)
      cases s with
      | false =>
        simp only [sgn, Bool.false_eq_true, if_false] at h1 h2
        have hk : 0 ≤ k := by
          rcases (by omega : 0 ≤ k ∨ k ≤ -1) with h | h
          · exact h
          · exfalso
            have : (2 * k + 1) * (P : Int) ≤ 0 := Int.mul_nonpos_of_nonpos_of_nonneg (by omega) (by omega)
            omega
        have ek : (k.natAbs : Int) = k := by omega
        rw [ek]
        exact ⟨dn _ h1, up _ h2, .inr (by simp; omega)⟩
      | true =>
        simp only [sgn, if_true] at h1 h2
        have hk : k ≤ 0 := by
          rcases (by omega : k ≤ 0 ∨ 1 ≤ k) with h | h
          · exact h
          · exfalso
            have : 0 ≤ (2 * k - 1) * (P : Int) := Int.mul_nonneg (by omega) (by omega)
            omega
        have ek : (k.natAbs : Int) = -k := by omega
        rw [ek]
        refine ⟨dn _ ?_, up _ ?_, by simp; omega⟩
        · have : (2 * -k - 1) * (P : Int) = -((2 * k + 1) * P) := by rw [← Int.neg_mul]; congr 1; omega
          omega
        · have : (2 * -k + 1) * (P : Int) = -((2 * k - 1) * P) := by rw [← Int.neg_mul]; congr 1; omega
          omega
    obtain ⟨k1, k2, k3⟩ := key
    generalize hj : k.natAbs = j at *
    generalize halfEven n d = q at *
    have k1' : 2 * (d * j) < 2 * n + d := by
      have : (2 * (j : Int) - 1) * d = 2 * (d * j) - d := by rw [Int.sub_mul, Int.one_mul, Int.mul_assoc, Int.mul_comm (j : Int)]
      rw [this] at k1
      have : ((d * j : Nat) : Int) = (d : Int) * j := Int.natCast_mul _ _
      omega
    have k2' : 2 * n < 2 * (d * j) + d := by
      have : (2 * (j : Int) + 1) * d = 2 * (d * j) + d := by rw [Int.add_mul, Int.one_mul, Int.mul_assoc, Int.mul_comm (j : Int)]
      rw [this] at k2
      have : ((d * j : Nat) : Int) = (d : Int) * j := Int.natCast_mul _ _
      omega
    have hqj : q = j := by
      rcases Nat.lt_trichotomy q j with h | h | h
      · exfalso
        have : d * (q + 1) ≤ d * j := Nat.mul_le_mul_left _ h
        rw [Nat.mul_add] at this
        unfold dist at hh
        omega
      · exact h
      · exfalso
        have : d * (j + 1) ≤ d * q := Nat.mul_le_mul_left _ h
        rw [Nat.mul_add] at this
        unfold dist at hh
        omega
    refine ⟨hqj, ?_⟩
    rcases k3 with h | h
    · left
      have : j = 0 := by omega
      omega
    · exact .inr h
  obtain ⟨h1, h2⟩ := hq
  rw [h1] at h2 ⊢
  cases s with
  | false => simp only [sgn, Bool.false_eq_true, if_false]; simp at h2; omega
  | true => simp only [sgn, if_true]; simp at h2; omega

theorem floor_hf {a : Int} (ha : a.natAbs < 2 ^ 53) : ∃ m e, decode (hf a) = .fin (decide (a < 0)) m e ∧ floorOf (decide (a < 0)) m e = a / 2 := by
  obtain ⟨m, e, hx, vx⟩ := hf_fin ha
  refine ⟨m, e, hx, floor_val hx ?_ ?_⟩
  · rw [vx, pow73, Int.natCast_mul]
    have hP : (0 : Int) < (2 ^ 1073 : Nat) := Int.ofNat_lt.mpr (Nat.two_pow_pos _)
    generalize ((2 ^ 1073 : Nat) : Int) = P at *
    rw [← Int.mul_assoc, Int.mul_right_comm]
    exact Int.mul_le_mul_of_nonneg_right (by omega) (by omega)
  · rw [vx, pow73, Int.natCast_mul]
    have hP : (0 : Int) < (2 ^ 1073 : Nat) := Int.ofNat_lt.mpr (Nat.two_pow_pos _)
    generalize ((2 ^ 1073 : Nat) : Int) = P at *
    rw [← Int.mul_assoc, Int.mul_right_comm]
    exact Int.mul_lt_mul_of_pos_right (by omega) hP

theorem trunc_hf {k : Int} (hk : k.natAbs < 2 ^ 52) : ∃ m e, decode (hf (2 * k)) = .fin (decide (2 * k < 0)) m e ∧ truncOf (decide (2 * k < 0)) m e = k := by
  obtain ⟨m, e, hx, vx⟩ := hf_fin (n := 2 * k) (by omega)
  refine ⟨m, e, hx, ?_⟩
  have hv : val (hf (2 * k)) = k * (2 ^ 1074 : Nat) := by
    rw [vx, pow73, Int.natCast_mul, Int.mul_comm 2 k, Int.mul_assoc, Int.mul_comm (2 : Int)]
    rfl
  have hP : (0 : Int) < (2 ^ 1074 : Nat) := Int.ofNat_lt.mpr (Nat.two_pow_pos _)
  unfold truncOf
  split
  · refine ceil_val hx ?_ ?_
    · rw [hv]; exact Int.mul_lt_mul_of_pos_right (by omega) hP
    · rw [hv]; omega
  · refine floor_val hx ?_ ?_
    · rw [hv]; omega
    · rw [hv]; exact Int.mul_lt_mul_of_pos_right (by omega) hP

end Mine.Flo

end

section
set_option maxRecDepth 100000
namespace Mine.Flo
open PySem PySem.Float64

/-- the grid's unit: 2^-20 of a day -/
def G : Nat := 2 ^ 1054
theorem G_pos : 0 < G := Nat.two_pow_pos _
theorem P_G : (2 : Nat) ^ 1074 = G * 2 ^ 20 := by unfold G; rw [← Nat.pow_add]
theorem U_G : (2 : Nat) ^ 1073 = G * 2 ^ 19 := by unfold G; rw [← Nat.pow_add]

def Near (x : UInt64) (lo hi : Int) : Prop := ∃ s m e, decode x = .fin s m e ∧ lo * G ≤ val x ∧ val x ≤ hi * G

theorem Near.mono {x : UInt64} {lo hi lo' hi' : Int} (h : Near x lo hi) (h1 : lo' ≤ lo) (h2 : hi ≤ hi') : Near x lo' hi' := by
  obtain ⟨s, m, e, hd, a, b⟩ := h
  have hG := G_pos
  exact ⟨s, m, e, hd, Int.le_trans (Int.mul_le_mul_of_nonneg_right h1 (by omega)) a, Int.le_trans b (Int.mul_le_mul_of_nonneg_right h2 (by omega))⟩

theorem near_hf {a : Int} (ha : a.natAbs < 2 ^ 53) : Near (hf a) (a * 2 ^ 19) (a * 2 ^ 19) := by
  obtain ⟨m, e, hx, vx⟩ := hf_fin ha
  have : a * 2 ^ 19 * (G : Int) = val (hf a) := by
    rw [vx, U_G, Int.natCast_mul, Int.mul_assoc, Int.mul_comm (2 ^ 19 : Int)]
    rfl
  exact ⟨_, m, e, hx, by omega, by omega⟩

theorem near_of_right {r : UInt64} {neg : Bool} {W D : Nat} {lo hi : Int} (h : Right r neg W D) (hD : 0 < D) (hlo : lo.natAbs < 2 ^ 53) (hhi : hi.natAbs < 2 ^ 53)
    (h1 : (D : Int) * (lo * G) ≤ sgn neg W) (h2 : sgn neg W ≤ (D : Int) * (hi * G)) : Near r lo hi := by
  have hb : W ≤ D * (max lo.natAbs hi.natAbs * 2 ^ 1054) := by
    show W ≤ D * (max lo.natAbs hi.natAbs * G)
    have a1 : lo.natAbs ≤ max lo.natAbs hi.natAbs := Nat.le_max_left _ _
    have a2 : hi.natAbs ≤ max lo.natAbs hi.natAbs := Nat.le_max_right _ _
    generalize max lo.natAbs hi.natAbs = M at *
    have g := G_pos
    have b1 : -((M : Int) * G) ≤ lo * G := by rw [← Int.neg_mul]; exact Int.mul_le_mul_of_nonneg_right (by omega) (by omega)
    have b2 : hi * G ≤ (M : Int) * G := Int.mul_le_mul_of_nonneg_right (by omega) (by omega)
    have c1 := Int.mul_le_mul_of_nonneg_left b1 (by omega : (0 : Int) ≤ D)
    have c2 := Int.mul_le_mul_of_nonneg_left b2 (by omega : (0 : Int) ≤ D)
    rw [Int.mul_neg] at c1
    have e : ((D * (M * G) : Nat) : Int) = (D : Int) * ((M : Int) * G) := by simp
    have s : W = (sgn neg W).natAbs := (sgn_natAbs neg W).symm
    omega
  obtain ⟨m, e, hd, k⟩ := right_grid h (j := 1054) (n := max lo.natAbs hi.natAbs) (by decide) (by omega) hD hb
  exact ⟨neg, m, e, hd, (k 1054 lo (by decide) hlo).1 h1, (k 1054 hi (by decide) hhi).2 h2⟩

theorem sgn_abs (z : Int) : sgn (decide (z < 0)) z.natAbs = z := by
  by_cases h : z < 0
  · rw [decide_eq_true h]; simp only [sgn, if_true]; omega
  · rw [decide_eq_false h]; simp only [sgn, Bool.false_eq_true, if_false]; omega

theorem near_zero {b : Bool} {lo hi : Int} (h1 : lo ≤ 0) (h2 : 0 ≤ hi) : Near (zero b) lo hi := by
  have : ∃ s m e, decode (zero b) = .fin s m e ∧ val (zero b) = 0 := by
    have h0 : 0 < infMag := by unfold infMag; omega
    obtain ⟨m, e, hd, _⟩ := decode_pack b h0
    refine ⟨b, m, e, hd, ?_⟩
    have := val_pack b h0
    rw [V_zero] at this
    show val (pack b 0) = 0
    rw [this]
    cases b <;> rfl
  obtain ⟨s, m, e, hd, hv⟩ := this
  have g := G_pos
  exact ⟨s, m, e, hd, by rw [hv]; exact Int.mul_nonpos_of_nonpos_of_nonneg h1 (by omega), by rw [hv]; exact Int.mul_nonneg h2 (by omega)⟩

theorem sign_of_mul {z : Int} {g : Int} (hg : 0 < g) : (z * g ≤ 0 → z ≤ 0) ∧ (0 ≤ z * g → 0 ≤ z) := by
  constructor
  · intro h
    rcases (by omega : z ≤ 0 ∨ 0 < z) with h1 | h1
    · exact h1
    · exact absurd (Int.mul_pos h1 hg) (by omega)
  · intro h
    rcases (by omega : 0 ≤ z ∨ z < 0) with h1 | h1
    · exact h1
    · exact absurd (Int.mul_neg_of_neg_of_pos h1 hg) (by omega)

theorem near_add {x y : UInt64} {a b c d : Int} (hx : Near x a b) (hy : Near y c d) (h1 : (a + c).natAbs < 2 ^ 53) (h2 : (b + d).natAbs < 2 ^ 53) : Near (add x y) (a + c) (b + d) := by
  obtain ⟨s, m, e, dx, x1, x2⟩ := hx
  obtain ⟨t, k, f, dy, y1, y2⟩ := hy
  have h := add_right dx dy
  have g := G_pos
  have z1 : (a + c) * (G : Int) ≤ val x + val y := by rw [Int.add_mul]; omega
  have z2 : val x + val y ≤ (b + d) * (G : Int) := by rw [Int.add_mul]; omega
  by_cases h0 : val x + val y = 0
  · rw [h.1 h0]
    exact near_zero ((sign_of_mul (by omega : (0 : Int) < G)).1 (by omega)) ((sign_of_mul (by omega : (0 : Int) < G)).2 (by omega))
  · refine near_of_right (h.2 h0) (by decide) h1 h2 ?_ ?_
    · rw [sgn_abs]; omega
    · rw [sgn_abs]; omega

theorem near_sub {x y : UInt64} {a b c d : Int} (hx : Near x a b) (hy : Near y c d) (h1 : (a - d).natAbs < 2 ^ 53) (h2 : (b - c).natAbs < 2 ^ 53) : Near (sub x y) (a - d) (b - c) := by
  obtain ⟨s, m, e, dx, x1, x2⟩ := hx
  obtain ⟨t, k, f, dy, y1, y2⟩ := hy
  have h := sub_right dx dy
  have g := G_pos
  have z1 : (a - d) * (G : Int) ≤ val x - val y := by rw [Int.sub_mul]; omega
  have z2 : val x - val y ≤ (b - c) * (G : Int) := by rw [Int.sub_mul]; omega
  by_cases h0 : val x - val y = 0
  · rw [h.1 h0]
    exact near_zero ((sign_of_mul (by omega : (0 : Int) < G)).1 (by omega)) ((sign_of_mul (by omega : (0 : Int) < G)).2 (by omega))
  · refine near_of_right (h.2 h0) (by decide) h1 h2 ?_ ?_
    · rw [sgn_abs]; omega
    · rw [sgn_abs]; omega

theorem near_floor {x : UInt64} {lo hi q : Int} {s : Bool} {m : Nat} {e : Int} (h : Near x lo hi) (hx : decode x = .fin s m e) (h1 : q * 2 ^ 20 ≤ lo) (h2 : hi < (q + 1) * 2 ^ 20) : floorOf s m e = q := by
  obtain ⟨_, _, _, _, a, b⟩ := h
  have g := G_pos
  refine floor_val hx ?_ ?_
  · rw [P_G, Int.natCast_mul]
    have := Int.mul_le_mul_of_nonneg_right h1 (by omega : (0 : Int) ≤ G)
    have e1 : q * ((G : Int) * ((2 ^ 20 : Nat) : Int)) = q * 2 ^ 20 * G := by rw [Int.mul_comm (G : Int), Int.mul_assoc]; rfl
    omega
  · rw [P_G, Int.natCast_mul]
    have := Int.mul_lt_mul_of_pos_right h2 (by omega : (0 : Int) < G)
    have e1 : (q + 1) * ((G : Int) * ((2 ^ 20 : Nat) : Int)) = (q + 1) * 2 ^ 20 * G := by rw [Int.mul_comm (G : Int), Int.mul_assoc]; rfl
    omega

theorem near_ceil {x : UInt64} {lo hi q : Int} {s : Bool} {m : Nat} {e : Int} (h : Near x lo hi) (hx : decode x = .fin s m e) (h1 : (q - 1) * 2 ^ 20 < lo) (h2 : hi ≤ q * 2 ^ 20) : ceilOf s m e = q := by
  obtain ⟨_, _, _, _, a, b⟩ := h
  have g := G_pos
  refine ceil_val hx ?_ ?_
  · rw [P_G, Int.natCast_mul]
    have := Int.mul_lt_mul_of_pos_right h1 (by omega : (0 : Int) < G)
    have e1 : (q - 1) * ((G : Int) * ((2 ^ 20 : Nat) : Int)) = (q - 1) * 2 ^ 20 * G := by rw [Int.mul_comm (G : Int), Int.mul_assoc]; rfl
    omega
  · rw [P_G, Int.natCast_mul]
    have := Int.mul_le_mul_of_nonneg_right h2 (by omega : (0 : Int) ≤ G)
    have e1 : q * ((G : Int) * ((2 ^ 20 : Nat) : Int)) = q * 2 ^ 20 * G := by rw [Int.mul_comm (G : Int), Int.mul_assoc]; rfl
    omega

theorem near_round {x : UInt64} {lo hi q : Int} {s : Bool} {m : Nat} {e : Int} (h : Near x lo hi) (hx : decode x = .fin s m e) (h1 : (2 * q - 1) * 2 ^ 19 < lo) (h2 : hi < (2 * q + 1) * 2 ^ 19) : nearestOf s m e = q := by
  obtain ⟨_, _, _, _, a, b⟩ := h
  have g := G_pos
  refine nearest_val hx ?_ ?_
  · rw [P_G, Int.natCast_mul]
    have := Int.mul_lt_mul_of_pos_right h1 (by omega : (0 : Int) < G)
    have e1 : (2 * q - 1) * ((G : Int) * ((2 ^ 20 : Nat) : Int)) = 2 * ((2 * q - 1) * 2 ^ 19 * G) := by
      rw [show ((2 ^ 20 : Nat) : Int) = 2 ^ 19 * 2 from rfl, Int.mul_comm (G : Int), Int.mul_assoc, Int.mul_comm 2 ((2 * q - 1) * 2 ^ 19 * (G : Int)), Int.mul_assoc, Int.mul_assoc, Int.mul_comm (2:Int) G]
    omega
  · rw [P_G, Int.natCast_mul]
    have := Int.mul_lt_mul_of_pos_right h2 (by omega : (0 : Int) < G)
    have e1 : (2 * q + 1) * ((G : Int) * ((2 ^ 20 : Nat) : Int)) = 2 * ((2 * q + 1) * 2 ^ 19 * G) := by
      rw [show ((2 ^ 20 : Nat) : Int) = 2 ^ 19 * 2 from rfl, Int.mul_comm (G : Int), Int.mul_assoc, Int.mul_comm 2 ((2 * q + 1) * 2 ^ 19 * (G : Int)), Int.mul_assoc, Int.mul_assoc, Int.mul_comm (2:Int) G]
    omega

/-- a quotient k / n, scaled by c -/
theorem near_quot {r : UInt64} {k : Int} {n c : Nat} {lo hi : Int} (hc : 0 < c) (hn : 0 < n) (h : Right r (decide (k < 0)) (k.natAbs * 2 ^ 1074 * c) (n * c)) (hlo : lo.natAbs < 2 ^ 53) (hhi : hi.natAbs < 2 ^ 53)
    (h1 : n * lo ≤ k * 2 ^ 20) (h2 : k * 2 ^ 20 ≤ n * hi) : Near r lo hi := by
  have g := G_pos
  have e : ∀ z : Int, ((n * c : Nat) : Int) * (z * G) = n * z * (G * c) := by
    intro z
    rw [Int.natCast_mul, Int.mul_assoc, Int.mul_assoc, Int.mul_comm (c : Int), Int.mul_assoc]
  have e2 : sgn (decide (k < 0)) (k.natAbs * 2 ^ 1074 * c) = k * 2 ^ 20 * (G * c) := by
    rw [Nat.mul_assoc, sgn_hf, P_G]
    simp only [Int.natCast_mul]
    rw [show ((2 ^ 20 : Nat) : Int) = 2 ^ 20 from rfl, Int.mul_comm (G : Int) (2 ^ 20), Int.mul_assoc (2 ^ 20 : Int), Int.mul_assoc]
  have hgc : 0 ≤ (G : Int) * c := by rw [← Int.natCast_mul]; omega
  refine near_of_right h (Nat.mul_pos hn hc) hlo hhi ?_ ?_
  · rw [e, e2]; exact Int.mul_le_mul_of_nonneg_right h1 hgc
  · rw [e, e2]; exact Int.mul_le_mul_of_nonneg_right h2 hgc

/-- int / int -/
theorem near_ofFrac {a b : Int} {lo hi : Int} (hb : 0 < b) (hlo : lo.natAbs < 2 ^ 53) (hhi : hi.natAbs < 2 ^ 53) (h1 : b * lo ≤ a * 2 ^ 20) (h2 : a * 2 ^ 20 ≤ b * hi) :
    Near (ofFrac (decide (a < 0) != decide (b < 0)) a.natAbs b.natAbs) lo hi := by
  have hs : (decide (a < 0) != decide (b < 0)) = decide (a < 0) := by rw [decide_eq_false (by omega : ¬ b < 0)]; simp
  have hb' : (b.natAbs : Int) = b := by omega
  rw [hs]
  refine near_quot (k := a) (n := b.natAbs) (c := 1) (by decide) (by omega) (ofFrac_right (by omega) ?_ (by omega)) hlo hhi (by rw [hb']; exact h1) (by rw [hb']; exact h2)
  rw [Nat.mul_one, Nat.mul_one]

/-- float / int, both of them ints -/
theorem near_div {k n : Int} {lo hi : Int} (hk : k.natAbs < 2 ^ 52) (hn : 0 < n) (hn' : n < 2 ^ 52) (hlo : lo.natAbs < 2 ^ 53) (hhi : hi.natAbs < 2 ^ 53) (h1 : n * lo ≤ k * 2 ^ 20) (h2 : k * 2 ^ 20 ≤ n * hi) :
    Near (div (hf (2 * k)) (hf (2 * n))) lo hi := by
  obtain ⟨m, e, hx, vx⟩ := hf_fin (n := 2 * k) (by omega)
  obtain ⟨j, f, hy, vy⟩ := hf_fin (n := 2 * n) (by omega)
  have hU : 0 < 2 ^ 1073 := Nat.two_pow_pos _
  have hP : 0 < 2 ^ 1074 := Nat.two_pow_pos _
  obtain ⟨_, _, q3⟩ := mul_pos_iff (2 * k) (2 ^ 1073) hU
  obtain ⟨_, _, p3⟩ := mul_pos_iff (2 * n) (2 ^ 1073) hU
  have hj : j ≠ 0 := by
    intro h
    subst h
    have hv := val_natAbs hy
    rw [vy, p3, Nat.zero_mul] at hv
    rcases Nat.mul_eq_zero.mp hv with h | h <;> omega
  have h := div_right hx hy hj
  rw [vx, vy, q3, p3] at h
  have hs : (decide (2 * k < 0) != decide (2 * n < 0)) = decide (k < 0) := by
    rw [decide_eq_false (by omega : ¬ 2 * n < 0)]
    simp only [Bool.bne_false]
    exact decide_eq_decide.mpr (by omega)
  rw [hs] at h
  have e1 : (2 * k).natAbs * 2 ^ 1073 * 2 ^ 1074 = k.natAbs * 2 ^ 1074 * 2 ^ 1074 := by
    have : (2 * k).natAbs = k.natAbs * 2 := by omega
    rw [this]
    have : 2 * 2 ^ 1073 = 2 ^ 1074 := by rw [pow73]; omega
    rw [Nat.mul_assoc k.natAbs, this]
  have e2 : (2 * n).natAbs * 2 ^ 1073 = n.natAbs * 2 ^ 1074 := by
    have : (2 * n).natAbs = n.natAbs * 2 := by omega
    rw [this]
    have : 2 * 2 ^ 1073 = 2 ^ 1074 := by rw [pow73]; omega
    rw [Nat.mul_assoc n.natAbs, this]
  rw [e1, e2] at h
  have hn2 : (n.natAbs : Int) = n := by omega
  exact near_quot hP (by omega) h hlo hhi (by rw [hn2]; exact h1) (by rw [hn2]; exact h2)

theorem near_fin {x : UInt64} {lo hi : Int} (h : Near x lo hi) : isFinite x = true ∧ isNaN x = false ∧ isInf x = false := by
  obtain ⟨s, m, e, hd, _⟩ := h
  unfold isFinite isNaN isInf
  rw [hd]
  exact ⟨rfl, rfl, rfl⟩

end Mine.Flo

end

section
set_option maxRecDepth 100000
namespace Mine.Flo
open PySem PySem.Float64

/-- the tropical year's mantissa -/
def mT : Int := 6425408712209331
@[irreducible] def TROP : UInt64 := 4645133024903820211
theorem trop_dec : decode TROP = .fin false 6425408712209331 (-44) := by
  have h : TROP.toNat = 4645133024903820211 := by decide +kernel
  unfold decode
  simp only [h]
  with_unfolding_all rfl
theorem trop_val : val TROP = mT * (2 ^ 1030 : Nat) := by
  rw [val_eq trop_dec]
  rfl
theorem trop_lit : (4645133024903820211 : UInt64) = TROP := by unfold TROP; rfl
theorem half_lit : (4602678819172646912 : UInt64) = hf 1 := by decide +kernel
theorem epg_lit : (4700144277945057280 : UInt64) = hf 3442851 := by decide +kernel
theorem epp_lit : (4701118784549683200 : UInt64) = hf 3896641 := by decide +kernel

theorem G_R : G = 2 ^ 1030 * 2 ^ 24 := by unfold G; rw [← Nat.pow_add]

theorem near_mulT {n : Int} {lo hi : Int} (hn : n.natAbs < 2 ^ 50) (hlo : lo.natAbs < 2 ^ 53) (hhi : hi.natAbs < 2 ^ 53) (h1 : lo * 2 ^ 24 ≤ n * mT) (h2 : n * mT ≤ hi * 2 ^ 24) : Near (mul TROP (hf (2 * n))) lo hi := by
  obtain ⟨k, f, hy, vy⟩ := hf_fin (n := 2 * n) (by omega)
  have hU : 0 < 2 ^ 1073 := Nat.two_pow_pos _
  obtain ⟨_, _, p3⟩ := mul_pos_iff (2 * n) (2 ^ 1073) hU
  have h := mul_right trop_dec hy
  have hR : 0 < 2 ^ 1030 := Nat.two_pow_pos _
  have e1 : (val TROP).natAbs = 6425408712209331 * 2 ^ 1030 := by
    rw [trop_val, Int.natAbs_mul, Int.natAbs_natCast]
    rfl
  have e2 : (val (hf (2 * n))).natAbs = n.natAbs * 2 ^ 1074 := by
    rw [vy, p3, pow73]
    have : (2 * n).natAbs = n.natAbs * 2 := by omega
    rw [this, Nat.mul_assoc, Nat.mul_comm 2]
  have hs : (false != decide (2 * n < 0)) = decide (n < 0) := by
    simp only [Bool.false_bne]
    exact decide_eq_decide.mpr (by omega)
  rw [e1, e2, hs] at h
  have hP : 0 < 2 ^ 1074 := Nat.two_pow_pos _
  have e3 : sgn (decide (n < 0)) (6425408712209331 * 2 ^ 1030 * (n.natAbs * 2 ^ 1074)) = ((2 ^ 1074 : Nat) : Int) * (n * mT * (2 ^ 1030 : Nat)) := by
    have : 6425408712209331 * 2 ^ 1030 * (n.natAbs * 2 ^ 1074) = n.natAbs * (6425408712209331 * 2 ^ 1030 * 2 ^ 1074) := by
      generalize 2 ^ 1030 = R
      generalize 2 ^ 1074 = P
      ac_rfl
    rw [this, sgn_hf]
    simp only [Int.natCast_mul]
    rw [show ((6425408712209331 : Nat) : Int) = mT from rfl]
    generalize ((2 ^ 1030 : Nat) : Int) = R
    generalize ((2 ^ 1074 : Nat) : Int) = P
    ac_rfl
  have e4 : ∀ z : Int, z * (G : Int) = z * 2 ^ 24 * (2 ^ 1030 : Nat) := by
    intro z
    rw [G_R, Int.natCast_mul, show ((2 ^ 24 : Nat) : Int) = 2 ^ 24 from rfl]
    generalize ((2 ^ 1030 : Nat) : Int) = R
    ac_rfl
  refine near_of_right h hP hlo hhi ?_ ?_
  · rw [e3, e4]
    exact Int.mul_le_mul_of_nonneg_left (Int.mul_le_mul_of_nonneg_right h1 (by omega)) (by omega)
  · rw [e3, e4]
    exact Int.mul_le_mul_of_nonneg_left (Int.mul_le_mul_of_nonneg_right h2 (by omega)) (by omega)

theorem near_divT {k : Int} {lo hi : Int} (hk : k.natAbs < 2 ^ 50) (hlo : lo.natAbs < 2 ^ 53) (hhi : hi.natAbs < 2 ^ 53) (h1 : lo * mT ≤ k * 2 ^ 63) (h2 : k * 2 ^ 63 ≤ hi * mT) : Near (div (hf k) TROP) lo hi := by
  obtain ⟨j, f, hx, vx⟩ := hf_fin (n := k) (by omega)
  have hU : 0 < 2 ^ 1073 := Nat.two_pow_pos _
  obtain ⟨_, _, p3⟩ := mul_pos_iff k (2 ^ 1073) hU
  have h := div_right hx trop_dec (by decide)
  have e1 : (val TROP).natAbs = 6425408712209331 * 2 ^ 1030 := by
    rw [trop_val, Int.natAbs_mul, Int.natAbs_natCast]
    rfl
  have hs : (decide (k < 0) != false) = decide (k < 0) := by simp
  rw [e1, hs, vx, p3] at h
  have hR : 0 < 2 ^ 1030 := Nat.two_pow_pos _
  have e3 : sgn (decide (k < 0)) (k.natAbs * 2 ^ 1073 * 2 ^ 1074) = k * 2 ^ 63 * ((G : Int) * (2 ^ 1030 : Nat)) := by
    rw [Nat.mul_assoc, sgn_hf]
    have : 2 ^ 1073 * 2 ^ 1074 = 2 ^ 63 * (G * 2 ^ 1030) := by unfold G; rw [← Nat.pow_add, ← Nat.pow_add, ← Nat.pow_add]
    rw [this]
    simp only [Int.natCast_mul]
    rw [show ((2 ^ 63 : Nat) : Int) = 2 ^ 63 from rfl, Int.mul_assoc]
  have e4 : ∀ z : Int, ((6425408712209331 * 2 ^ 1030 : Nat) : Int) * (z * G) = z * mT * ((G : Int) * (2 ^ 1030 : Nat)) := by
    intro z
    rw [Int.natCast_mul, show ((6425408712209331 : Nat) : Int) = mT from rfl]
    generalize ((2 ^ 1030 : Nat) : Int) = R
    ac_rfl
  have hGR : 0 ≤ (G : Int) * (2 ^ 1030 : Nat) := by rw [← Int.natCast_mul]; omega
  refine near_of_right h (by omega) hlo hhi ?_ ?_
  · rw [e3, e4]
    exact Int.mul_le_mul_of_nonneg_right h1 hGR
  · rw [e3, e4]
    exact Int.mul_le_mul_of_nonneg_right h2 hGR

theorem fmod_right {x y : UInt64} {a b : Bool} {m k : Nat} {e f : Int} (hx : decode x = .fin a m e) (hy : decode y = .fin b k f) (hk : k ≠ 0) :
    Right (fmod x y) a ((val x).natAbs % (val y).natAbs) 1 := by
  have he := decode_ge hx
  have hf := decode_ge hy
  have h1 : fmod x y = ofBin a ((m * 2 ^ (e - min e f).toNat) % (k * 2 ^ (f - min e f).toNat)) (min e f) := by
    unfold fmod
    rw [hx, hy]
    simp only
    rw [if_neg (by simpa using hk)]
    rfl
  rw [h1]
  have e1 : (e - min e f).toNat + (min e f + 1074).toNat = (e + 1074).toNat := by omega
  have e2 : (f - min e f).toNat + (min e f + 1074).toNat = (f + 1074).toNat := by omega
  rw [val_natAbs hx, val_natAbs hy, ← e1, ← e2, Nat.pow_add, Nat.pow_add, ← Nat.mul_assoc, ← Nat.mul_assoc, Nat.mul_mod_mul_right]
  generalize m * 2 ^ (e - min e f).toNat % (k * 2 ^ (f - min e f).toNat) = M
  have hs := shift_one M (min e f) 1074 (by omega)
  have hd := shift_pos M 1 (min e f) (by decide)
  show Right (ofFrac a (shift M 1 (min e f)).1 (shift M 1 (min e f)).2) _ _ _
  refine ofFrac_right hd ?_ (by decide)
  rw [Nat.mul_one, hs]
  rfl

theorem divmod_snd (x y : UInt64) : (divmod x y).2 = if isZero (fmod x y) = true then copysign (zero false) y else if (lt y (zero false) != lt (fmod x y) (zero false)) = true then add (fmod x y) y else fmod x y := by
  unfold divmod
  by_cases h1 : isZero (fmod x y) = true
  · simp only [h1, if_true]
  · by_cases h2 : (lt y (zero false) != lt (fmod x y) (zero false)) = true
    · simp only [h1, h2, if_true, if_false, Bool.false_eq_true]
    · simp only [h1, h2, if_false, Bool.false_eq_true]

theorem sign_dec {x : UInt64} {a : Bool} {m : Nat} {e : Int} (h : decode x = .fin a m e) : signBit x = a := by
  unfold decode at h
  unfold signBit
  simp only at h
  split at h
  · split at h <;> cases h
  · split at h
    · cases h; rfl
    · cases h; rfl

theorem isZero_val {x : UInt64} {a : Bool} {m : Nat} {e : Int} (h : decode x = .fin a m e) : isZero x = decide (val x = 0) := by
  have hv := val_natAbs h
  have hp : 0 < 2 ^ (e + 1074).toNat := Nat.two_pow_pos _
  unfold isZero
  rw [h]
  generalize 2 ^ (e + 1074).toNat = p at *
  cases m with
  | zero =>
    simp only
    rw [Nat.zero_mul] at hv
    rw [decide_eq_true (by omega)]
  | succ m =>
    simp only
    have : 0 < (m + 1) * p := Nat.mul_pos (by omega) hp
    rw [decide_eq_false (by omega)]

theorem lt_val {x y : UInt64} {a b : Bool} {m k : Nat} {e f : Int} (hx : decode x = .fin a m e) (hy : decode y = .fin b k f) : lt x y = decide (val x < val y) := by
  unfold lt
  rw [cmp_right hx hy]
  by_cases h : val x < val y
  · rw [Int.compare_eq_lt.mpr h, decide_eq_true h]; rfl
  · rw [decide_eq_false h]
    rcases (by omega : val x = val y ∨ val y < val x) with h1 | h1
    · rw [h1]; simp
    · rw [Int.compare_eq_gt.mpr h1]; rfl

theorem mod_hf {k n : Int} (hk : k.natAbs < 2 ^ 50) (hn : 0 < n) (hn' : n < 2 ^ 50) : (divmod (hf (2 * k)) (hf (2 * n))).2 = hf (2 * (k % n)) := by
  obtain ⟨m, e, hx, vx⟩ := hf_fin (n := 2 * k) (by omega)
  obtain ⟨j, f, hy, vy⟩ := hf_fin (n := 2 * n) (by omega)
  obtain ⟨z, g, hz, vz⟩ := hf_fin (n := 0) (by omega)
  have hU : 0 < 2 ^ 1073 := Nat.two_pow_pos _
  obtain ⟨_, _, q3⟩ := mul_pos_iff (2 * k) (2 ^ 1073) hU
  obtain ⟨p1, p2, p3⟩ := mul_pos_iff (2 * n) (2 ^ 1073) hU
  have hj : j ≠ 0 := by
    intro h
    subst h
    have hv := val_natAbs hy
    rw [vy, p3, Nat.zero_mul] at hv
    rcases Nat.mul_eq_zero.mp hv with h | h <;> omega
  have h := fmod_right hx hy hj
  rw [vx, vy, q3, p3, Nat.mul_mod_mul_right] at h
  have hr : (2 * k).natAbs % (2 * n).natAbs = 2 * (k.natAbs % n.natAbs) := by
    have a1 : (2 * k).natAbs = 2 * k.natAbs := by omega
    have a2 : (2 * n).natAbs = 2 * n.natAbs := by omega
    rw [a1, a2, Nat.mul_mod_mul_left]
  have hlt : k.natAbs % n.natAbs < n.natAbs := Nat.mod_lt _ (by omega)
  -- the rest, in ints
  have hki : 0 ≤ k → ((k.natAbs % n.natAbs : Nat) : Int) = k % n := by
    intro h0
    rw [Int.natCast_emod]
    congr 1 <;> omega
  have hkn : k < 0 → k % n = (if k.natAbs % n.natAbs = 0 then 0 else n - (k.natAbs % n.natAbs : Nat)) := by
    intro h0
    have e1 : k = -(k.natAbs : Int) := by omega
    have e2 : (n.natAbs : Int) = n := by omega
    have e3 := Nat.div_add_mod k.natAbs n.natAbs
    have e4 : n * (k.natAbs / n.natAbs : Nat) + (k.natAbs % n.natAbs : Nat) = k.natAbs := by
      rw [← e2]
      have : ((n.natAbs * (k.natAbs / n.natAbs) + k.natAbs % n.natAbs : Nat) : Int) = k.natAbs := by rw [e3]
      rw [Int.natCast_add, Int.natCast_mul] at this
      exact this
    generalize k.natAbs / n.natAbs = q at *
    generalize k.natAbs % n.natAbs = r at *
    split
    · rename_i h1
      have : k = n * (-(q : Int)) := by rw [Int.mul_neg]; omega
      rw [this]
      exact Int.mul_emod_right _ _
    · rename_i h1
      have : k = (n - (r : Int)) + n * (-(q : Int) - 1) := by
        rw [Int.mul_sub, Int.mul_neg, Int.mul_one]
        omega
      rw [this, Int.add_mul_emod_self_left]
      exact Int.emod_eq_of_lt (by omega) (by omega)
  rw [hr] at h
  rw [divmod_snd]
  by_cases hr0 : k.natAbs % n.natAbs = 0
  · have hres : k % n = 0 := by
      rcases (by omega : 0 ≤ k ∨ k < 0) with h0 | h0
      · have := hki h0; omega
      · rw [hkn h0, if_pos hr0]
    rw [hr0] at h
    obtain ⟨t, ht, hti, _, kk⟩ := right_fin h (j := 0) (n := 0) (by decide) (by decide) (by decide) (by omega)
    have hv0 := (kk 0 0 (by decide) (by decide)).2 (by omega)
    obtain ⟨mm, ee, hd, _⟩ := decode_pack (decide (2 * k < 0)) hti
    have hval := val_pack (decide (2 * k < 0)) hti
    have hV : V t = 0 := by omega
    rw [hV, ← ht] at hval
    rw [← ht] at hd
    have hz0 : isZero (fmod (hf (2 * k)) (hf (2 * n))) = true := by
      rw [isZero_val hd, hval]
      cases decide (2 * k < 0) <;> rfl
    rw [if_pos hz0, hres]
    show copysign (zero false) (hf (2 * n)) = hf (2 * 0)
    unfold copysign
    rw [if_neg (by decide +kernel), sign_dec hy, decide_eq_false (by omega)]
    decide +kernel
  · rcases (by omega : 0 ≤ k ∨ k < 0) with h0 | h0
    · have hm : fmod (hf (2 * k)) (hf (2 * n)) = hf (2 * (k % n)) := by
        have := hki h0
        refine right_hf h (by omega) ?_ (by decide) ?_
        · rw [decide_eq_false (by omega), decide_eq_false (by omega)]
        · rw [Nat.one_mul]
          congr 1
          omega
      rw [hm]
      have hi := hki h0
      have hb : (2 * (k % n)).natAbs < 2 ^ 53 := by omega
      obtain ⟨m1, e1, hd1, v1⟩ := hf_fin hb
      obtain ⟨r1, r2, _⟩ := mul_pos_iff (2 * (k % n)) (2 ^ 1073) hU
      rw [if_neg, if_neg]
      · rw [zero_hf, lt_val hy hz, lt_val hd1 hz, vy, v1, vz, Int.zero_mul]
        rw [decide_eq_false (fun x => by have := p1.mp x; omega), decide_eq_false (fun x => by have := r1.mp x; omega)]
        decide
      · rw [isZero_val hd1, v1, decide_eq_false (fun x => by have := r2.mp x; omega)]
        decide
    · have hm : fmod (hf (2 * k)) (hf (2 * n)) = hf (-(2 * (k.natAbs % n.natAbs : Nat))) := by
        refine right_hf h (by omega) ?_ (by decide) ?_
        · rw [decide_eq_true (by omega), decide_eq_true (by omega)]
        · rw [Nat.one_mul]
          congr 1
          omega
      rw [hm]
      have hi := hkn h0
      rw [if_neg hr0] at hi
      have hb : (-(2 * ((k.natAbs % n.natAbs : Nat) : Int))).natAbs < 2 ^ 53 := by omega
      obtain ⟨m1, e1, hd1, v1⟩ := hf_fin hb
      obtain ⟨r1, r2, _⟩ := mul_pos_iff (-(2 * ((k.natAbs % n.natAbs : Nat) : Int))) (2 ^ 1073) hU
      rw [if_neg, if_pos]
      · show add (hf _) (hf _) = _
        rw [add_hf (by omega) (by omega), hi]
        congr 1
        omega
      · rw [zero_hf, lt_val hy hz, lt_val hd1 hz, vy, v1, vz, Int.zero_mul]
        rw [decide_eq_false (fun x => by have := p1.mp x; omega), decide_eq_true (r1.mpr (by omega))]
        decide
      · rw [isZero_val hd1, v1, decide_eq_false (fun x => by have := r2.mp x; omega)]
        decide

end Mine.Flo

end

section
set_option maxRecDepth 100000
namespace Mine.Flo
open PySem PySem.Float64 PySem.Flt PyProof.Rows

def Quot (x : UInt64) (k n : Int) : Prop := Near x ((k * 2 ^ 20) / n) (-((-(k * 2 ^ 20)) / n))
def FlIs (x : UInt64) (k : Int) : Prop := ∃ s m e, decode x = .fin s m e ∧ k * (2 ^ 1074 : Nat) ≤ val x ∧ val x < (k + 1) * (2 ^ 1074 : Nat)
def RoundIs (x : UInt64) (c : Int) : Prop := ∃ s m e, decode x = .fin s m e ∧ nearestOf s m e = c

theorem FlIs.fin {x : UInt64} {k : Int} (h : FlIs x k) : isFinite x = true ∧ isNaN x = false ∧ isInf x = false := by
  obtain ⟨s, m, e, hd, _⟩ := h
  unfold isFinite isNaN isInf
  rw [hd]
  exact ⟨rfl, rfl, rfl⟩
theorem RoundIs.fin {x : UInt64} {k : Int} (h : RoundIs x k) : isFinite x = true ∧ isNaN x = false ∧ isInf x = false := by
  obtain ⟨s, m, e, hd, _⟩ := h
  unfold isFinite isNaN isInf
  rw [hd]
  exact ⟨rfl, rfl, rfl⟩

theorem flIs_hf {a : Int} (ha : a.natAbs < 2 ^ 53) : FlIs (hf a) (a / 2) := by
  obtain ⟨m, e, hx, vx⟩ := hf_fin ha
  have hP : (0 : Int) < (2 ^ 1073 : Nat) := Int.ofNat_lt.mpr (Nat.two_pow_pos _)
  refine ⟨_, m, e, hx, ?_, ?_⟩
  · rw [vx, pow73, Int.natCast_mul]
    generalize ((2 ^ 1073 : Nat) : Int) = P at *
    rw [← Int.mul_assoc, Int.mul_right_comm]
    exact Int.mul_le_mul_of_nonneg_right (by omega) (by omega)
  · rw [vx, pow73, Int.natCast_mul]
    generalize ((2 ^ 1073 : Nat) : Int) = P at *
    rw [← Int.mul_assoc, Int.mul_right_comm]
    exact Int.mul_lt_mul_of_pos_right (by omega) hP

theorem flIs_near {x : UInt64} {lo hi : Int} (h : Near x lo hi) : ∃ k, FlIs x k ∧ lo / 2 ^ 20 ≤ k ∧ k ≤ hi / 2 ^ 20 := by
  obtain ⟨s, m, e, hd, h1, h2⟩ := h
  have g := G_pos
  have hP : (0 : Int) < (2 ^ 1074 : Nat) := Int.ofNat_lt.mpr (Nat.two_pow_pos _)
  refine ⟨val x / (2 ^ 1074 : Nat), ⟨s, m, e, hd, Int.ediv_mul_le _ (by omega), Int.lt_ediv_add_one_mul_self _ hP⟩, ?_, ?_⟩
  · rw [Int.le_ediv_iff_mul_le hP, P_G, Int.natCast_mul, show ((2 ^ 20 : Nat) : Int) = 2 ^ 20 from rfl, Int.mul_comm (G : Int), ← Int.mul_assoc]
    exact Int.le_trans (Int.mul_le_mul_of_nonneg_right (by omega) (by omega)) h1
  · have : val x < (hi / 2 ^ 20 + 1) * ((2 ^ 1074 : Nat) : Int) := by
      rw [P_G, Int.natCast_mul, show ((2 ^ 20 : Nat) : Int) = 2 ^ 20 from rfl, Int.mul_comm (G : Int), ← Int.mul_assoc]
      exact Int.lt_of_le_of_lt h2 (Int.mul_lt_mul_of_pos_right (by omega) (by omega))
    have := Int.ediv_lt_of_lt_mul hP this
    omega

theorem FlIs.near {x : UInt64} {k : Int} (h : FlIs x k) : Near x (k * 2 ^ 20) ((k + 1) * 2 ^ 20) := by
  obtain ⟨s, m, e, hd, h1, h2⟩ := h
  rw [P_G, Int.natCast_mul, show ((2 ^ 20 : Nat) : Int) = 2 ^ 20 from rfl, Int.mul_comm (G : Int), ← Int.mul_assoc] at h1 h2
  exact ⟨s, m, e, hd, h1, Int.le_of_lt h2⟩

/-- half a day earlier -/
theorem flIs_half {x : UInt64} {k : Int} (h : FlIs x k) (hk : k.natAbs < 2 ^ 30) : ∃ w, FlIs (sub x (hf 1)) w ∧ (w = k - 1 ∨ w = k) := by
  have h1 := near_sub h.near (near_hf (a := 1) (by decide)) (by omega) (by omega)
  obtain ⟨w, hw, a, b⟩ := flIs_near h1
  exact ⟨w, hw, by omega⟩

theorem FlIs.unique {x : UInt64} {k j : Int} (h : FlIs x k) (h' : FlIs x j) : k = j := by
  obtain ⟨_, _, _, _, a, b⟩ := h
  obtain ⟨_, _, _, _, c, d⟩ := h'
  have hP : (0 : Int) < (2 ^ 1074 : Nat) := Int.ofNat_lt.mpr (Nat.two_pow_pos _)
  have := Int.lt_of_mul_lt_mul_right (Int.lt_of_le_of_lt a d) (by omega)
  have := Int.lt_of_mul_lt_mul_right (Int.lt_of_le_of_lt c b) (by omega)
  omega

theorem quot_frac {a b : Int} (hb : 0 < b) (hb' : b ≤ 2 ^ 20) (ha : a.natAbs < 2 ^ 30) : Quot (ofFrac (decide (a < 0) != decide (b < 0)) a.natAbs b.natAbs) a b := by
  have d1 := Int.mul_ediv_add_emod (a * 2 ^ 20) b
  have d2 := Int.emod_nonneg (a * 2 ^ 20) (by omega : b ≠ 0)
  have d4 := Int.mul_ediv_add_emod (-(a * 2 ^ 20)) b
  have d5 := Int.emod_nonneg (-(a * 2 ^ 20)) (by omega : b ≠ 0)
  have f1 : ((a * 2 ^ 20) / b).natAbs ≤ (a * 2 ^ 20).natAbs := Int.natAbs_ediv_le_natAbs _ _
  have f2 : ((-(a * 2 ^ 20)) / b).natAbs ≤ (-(a * 2 ^ 20)).natAbs := Int.natAbs_ediv_le_natAbs _ _
  refine near_ofFrac hb (by omega) (by omega) (by omega) ?_
  rw [Int.mul_neg]; omega

theorem quot_div {k n : Int} (hn : 0 < n) (hn' : n ≤ 2 ^ 20) (hk : k.natAbs < 2 ^ 30) : Quot (div (hf (2 * k)) (hf (2 * n))) k n := by
  have d1 := Int.mul_ediv_add_emod (k * 2 ^ 20) n
  have d2 := Int.emod_nonneg (k * 2 ^ 20) (by omega : n ≠ 0)
  have d4 := Int.mul_ediv_add_emod (-(k * 2 ^ 20)) n
  have d5 := Int.emod_nonneg (-(k * 2 ^ 20)) (by omega : n ≠ 0)
  have f1 : ((k * 2 ^ 20) / n).natAbs ≤ (k * 2 ^ 20).natAbs := Int.natAbs_ediv_le_natAbs _ _
  have f2 : ((-(k * 2 ^ 20)) / n).natAbs ≤ (-(k * 2 ^ 20)).natAbs := Int.natAbs_ediv_le_natAbs _ _
  refine near_div (by omega) hn (by omega) (by omega) (by omega) (by omega) ?_
  rw [Int.mul_neg]; omega

theorem quot_add {x : UInt64} {k n j : Int} (h : Quot x k n) (hn : 0 < n) (hn' : n ≤ 2 ^ 20) (hk : k.natAbs < 2 ^ 30) (hj : j.natAbs < 2 ^ 30) : Quot (add x (hf (2 * j))) (k + n * j) n := by
  have f1 : ((k * 2 ^ 20) / n).natAbs ≤ (k * 2 ^ 20).natAbs := Int.natAbs_ediv_le_natAbs _ _
  have f2 : ((-(k * 2 ^ 20)) / n).natAbs ≤ (-(k * 2 ^ 20)).natAbs := Int.natAbs_ediv_le_natAbs _ _
  have h1 := near_add h (near_hf (a := 2 * j) (by omega)) (by omega) (by omega)
  have e1 : (k + n * j) * 2 ^ 20 = k * 2 ^ 20 + n * (j * 2 ^ 20) := by rw [Int.add_mul, Int.mul_assoc]
  have e2 : -((k + n * j) * 2 ^ 20) = -(k * 2 ^ 20) + n * (-(j * 2 ^ 20)) := by rw [e1, Int.mul_neg]; omega
  unfold Quot
  rw [e2, e1, Int.add_mul_ediv_left _ _ (by omega), Int.add_mul_ediv_left _ _ (by omega)]
  refine h1.mono (by omega) (by omega)

theorem quot_floor {x : UInt64} {k n : Int} (h : Quot x k n) (hn : 0 < n) (hn' : n ≤ 2 ^ 20) : FlIs x (k / n) := by
  obtain ⟨q, hq, a, b⟩ := flIs_near h
  have e1 := Int.mul_ediv_add_emod k n
  have e2 := Int.emod_nonneg k (by omega : n ≠ 0)
  have e3 := Int.emod_lt_of_pos k hn
  have hlo : k / n * 2 ^ 20 ≤ k * 2 ^ 20 / n := by
    rw [Int.le_ediv_iff_mul_le hn, Int.mul_right_comm]
    have := Int.ediv_mul_le k (by omega : n ≠ 0)
    omega
  have hhi : -((-(k * 2 ^ 20)) / n) ≤ (k / n + 1) * 2 ^ 20 - 1 := by
    have : -((k / n + 1) * 2 ^ 20 - 1) ≤ -(k * 2 ^ 20) / n := by
      rw [Int.le_ediv_iff_mul_le hn, Int.neg_mul, Int.sub_mul, Int.mul_right_comm, Int.add_mul, Int.one_mul, Int.mul_comm (k / n)]
      omega
    omega
  have : q = k / n := by omega
  rw [← this]
  exact hq

theorem FlIs.floor {x : UInt64} {k : Int} (h : FlIs x k) : toInt floorOf x = k := by
  obtain ⟨s, m, e, hd, h1, h2⟩ := h
  rw [toInt_fin hd]
  exact floor_val hd h1 h2

theorem quot_ceil {x : UInt64} {k n : Int} (h : Quot x k n) (hn : 0 < n) (hn' : n ≤ 2 ^ 20) : toInt ceilOf x = -((-k) / n) := by
  have h0 := h
  obtain ⟨s, m, e, hd, _⟩ := h
  rw [toInt_fin hd]
  have e1 := Int.mul_ediv_add_emod (-k) n
  have e2 := Int.emod_nonneg (-k) (by omega : n ≠ 0)
  have e3 := Int.emod_lt_of_pos (-k) hn
  refine near_ceil h0 hd ?_ ?_
  · have : (-(-k / n) - 1) * 2 ^ 20 + 1 ≤ k * 2 ^ 20 / n := by
      rw [Int.le_ediv_iff_mul_le hn]
      have : ((-(-k / n) - 1) * 2 ^ 20 + 1) * n = -(n * (-k / n)) * 2 ^ 20 - n * 2 ^ 20 + n := by
        rw [Int.add_mul, Int.one_mul, Int.sub_mul, Int.sub_mul, Int.one_mul, Int.neg_mul, Int.neg_mul, Int.neg_mul, Int.mul_right_comm, Int.mul_comm n, Int.mul_comm n]
      omega
    omega
  · have : -k / n * 2 ^ 20 ≤ (-(k * 2 ^ 20)) / n := by
      rw [Int.le_ediv_iff_mul_le hn, Int.mul_right_comm]
      have := Int.ediv_mul_le (-k) (by omega : n ≠ 0)
      omega
    omega

theorem notInf_ofInt {n : Int} (hn : n.natAbs < 2 ^ 52) : ¬ isInf (ofInt n) = true := by
  rw [ofInt_hf hn, (near_fin (near_hf (a := 2 * n) (by omega))).2.2]
  decide
theorem notZero_ofInt {n : Int} (_hn : n.natAbs < 2 ^ 52) (h0 : n ≠ 0) : ¬ isZero (ofInt n) = true := fun x => h0 ((isZero_ofInt n).mp x)
theorem trop_notZero : ¬ isZero TROP = true := by
  rw [isZero_val trop_dec, trop_val]
  have : (0 : Int) < (2 ^ 1030 : Nat) := Int.ofNat_lt.mpr (Nat.two_pow_pos _)
  have := Int.mul_pos (by decide : (0 : Int) < mT) this
  simp only [decide_eq_true_eq]
  omega

theorem hf_toInt_floor {a : Int} (ha : a.natAbs < 2 ^ 53) : toInt floorOf (hf a) = a / 2 := (flIs_hf ha).floor
theorem cmpInt_FlIs {x : UInt64} {k : Int} (h : FlIs x k) (i : Int) : (cmpInt x i == some .lt) = decide (k < i) ∧ (cmpInt x i == some .gt || cmpInt x i == some .eq) = decide (i ≤ k) := by
  obtain ⟨s, m, e, hd, h1, h2⟩ := h
  rw [cmpInt_right hd]
  have hP : (0 : Int) < (2 ^ 1074 : Nat) := Int.ofNat_lt.mpr (Nat.two_pow_pos _)
  have e0 : (2 : Int) ^ 1074 = ((2 ^ 1074 : Nat) : Int) := by simp
  rw [e0]
  generalize ((2 ^ 1074 : Nat) : Int) = P at *
  by_cases hlt : k < i
  · have : (k + 1) * P ≤ i * P := Int.mul_le_mul_of_nonneg_right (by omega) (by omega)
    rw [Int.compare_eq_lt.mpr (by omega), decide_eq_true hlt, decide_eq_false (by omega)]
    exact ⟨rfl, rfl⟩
  · have : i * P ≤ k * P := Int.mul_le_mul_of_nonneg_right (by omega) (by omega)
    rw [decide_eq_false hlt, decide_eq_true (by omega)]
    rcases (by omega : i * P < val x ∨ i * P = val x) with h | h
    · rw [Int.compare_eq_gt.mpr h]; exact ⟨rfl, rfl⟩
    · rw [h]; simp

section
variable {prog : Program} {w : World} {A : Around} {E : Value → Shared → Prop} {s : Shared} {t u : Tok} {Q : Value → Shared → Prop} {a b n k : Int} {x : UInt64}

theorem k_const {M : Model} {y z : UInt64} {kd : _} {pos : Pos} {env : Env} (hy : y = z) (h : Q (.float z s.toks) { s with toks := s.toks + 1 }) : wpAny M A (eval (.Constant (.float y) kd pos) env) Q E s :=
  AutoFloatOps.wpAny_Constant_float (by rw [hy]; exact h)
theorem k_subL {y z : UInt64} {v : Value} (hy : y = z) (h : wpAny (model prog w) A (binaryOp .Sub v (.float z u)) Q E s) : wpAny (model prog w) A (binaryOp .Sub v (.float y u)) Q E s := by rw [hy]; exact h
theorem k_Lsub {y z : UInt64} {v : Value} (hy : y = z) (h : wpAny (model prog w) A (binaryOp .Sub (.float z u) v) Q E s) : wpAny (model prog w) A (binaryOp .Sub (.float y u) v) Q E s := by rw [hy]; exact h
theorem k_Lmul {y z : UInt64} {v : Value} (hy : y = z) (h : wpAny (model prog w) A (binaryOp .Mult (.float z u) v) Q E s) : wpAny (model prog w) A (binaryOp .Mult (.float y u) v) Q E s := by rw [hy]; exact h
theorem k_divL {y z : UInt64} {v : Value} (hy : y = z) (h : wpAny (model prog w) A (binaryOp .Div v (.float z u)) Q E s) : wpAny (model prog w) A (binaryOp .Div v (.float y u)) Q E s := by rw [hy]; exact h
theorem k_addL {y z : UInt64} {v : Value} (hy : y = z) (h : wpAny (model prog w) A (binaryOp .Add v (.float z u)) Q E s) : wpAny (model prog w) A (binaryOp .Add v (.float y u)) Q E s := by rw [hy]; exact h
theorem k_addit (h : Q (.int (n + 1) s.toks) { s with toks := s.toks + 1 }) : wpAny (model prog w) A (binaryOp .Add (.int n t) (.bool true)) Q E s := add_int_bool h
theorem k_addif0 (h : Q (.int (n + 0) s.toks) { s with toks := s.toks + 1 }) : wpAny (model prog w) A (binaryOp .Add (.int n t) (.bool false)) Q E s := add_int_bool h
theorem k_addff (h : Q (.float (hf (a + b)) s.toks) { s with toks := s.toks + 1 }) (ha : a.natAbs < 2 ^ 50) (hb : b.natAbs < 2 ^ 50) : wpAny (model prog w) A (binaryOp .Add (.float (hf a) t) (.float (hf b) u)) Q E s :=
  AutoFloatOps.add_0 (by show Q (.float (add (hf a) (hf b)) s.toks) _; rw [add_hf (by omega) (by omega)]; exact h)
theorem k_subff (h : Q (.float (hf (a - b)) s.toks) { s with toks := s.toks + 1 }) (ha : a.natAbs < 2 ^ 50) (hb : b.natAbs < 2 ^ 50) : wpAny (model prog w) A (binaryOp .Sub (.float (hf a) t) (.float (hf b) u)) Q E s :=
  AutoFloatOps.sub_0 (by show Q (.float (sub (hf a) (hf b)) s.toks) _; rw [sub_hf (by omega) (by omega)]; exact h)
theorem k_subff_even (h : ∀ K, 2 * K = a - b → Q (.float (hf (2 * K)) s.toks) { s with toks := s.toks + 1 }) (ha : a.natAbs < 2 ^ 50) (hb : b.natAbs < 2 ^ 50) (h2 : (a - b) % 2 = 0) : wpAny (model prog w) A (binaryOp .Sub (.float (hf a) t) (.float (hf b) u)) Q E s :=
  AutoFloatOps.sub_0 (by show Q (.float (sub (hf a) (hf b)) s.toks) _; rw [sub_hf (by omega) (by omega)]; have e : a - b = 2 * ((a - b) / 2) := by omega
                         rw [e]; exact h _ e.symm)
theorem k_addfi (h : Q (.float (hf (a + 2 * n)) s.toks) { s with toks := s.toks + 1 }) (ha : a.natAbs < 2 ^ 50) (hn : n.natAbs < 2 ^ 50) : wpAny (model prog w) A (binaryOp .Add (.float (hf a) t) (.int n u)) Q E s :=
  AutoFloatOps.add_fi_1 (notInf_ofInt (by omega)) (by show Q (.float (add (hf a) (ofInt n)) s.toks) _; rw [ofInt_hf (by omega), add_hf (by omega) (by omega)]; exact h)
theorem k_addif (h : Q (.float (hf (2 * n + a)) s.toks) { s with toks := s.toks + 1 }) (ha : a.natAbs < 2 ^ 50) (hn : n.natAbs < 2 ^ 50) : wpAny (model prog w) A (binaryOp .Add (.int n u) (.float (hf a) t)) Q E s :=
  AutoFloatOps.add_if_1 (notInf_ofInt (by omega)) (by show Q (.float (add (ofInt n) (hf a)) s.toks) _; rw [ofInt_hf (by omega), add_hf (by omega) (by omega)]; exact h)
theorem k_subfi (h : Q (.float (hf (a - 2 * n)) s.toks) { s with toks := s.toks + 1 }) (ha : a.natAbs < 2 ^ 50) (hn : n.natAbs < 2 ^ 50) : wpAny (model prog w) A (binaryOp .Sub (.float (hf a) t) (.int n u)) Q E s :=
  AutoFloatOps.sub_fi_1 (notInf_ofInt (by omega)) (by show Q (.float (sub (hf a) (ofInt n)) s.toks) _; rw [ofInt_hf (by omega), sub_hf (by omega) (by omega)]; exact h)
theorem k_subif (h : Q (.float (hf (2 * n - a)) s.toks) { s with toks := s.toks + 1 }) (ha : a.natAbs < 2 ^ 50) (hn : n.natAbs < 2 ^ 50) : wpAny (model prog w) A (binaryOp .Sub (.int n u) (.float (hf a) t)) Q E s :=
  AutoFloatOps.sub_if_1 (notInf_ofInt (by omega)) (by show Q (.float (sub (ofInt n) (hf a)) s.toks) _; rw [ofInt_hf (by omega), sub_hf (by omega) (by omega)]; exact h)
theorem k_mulfi (h : Q (.float (hf (a * n)) s.toks) { s with toks := s.toks + 1 }) (h0 : 0 ≤ a) (ha : a < 2 ^ 30) (hn : 0 < n) (hn' : n < 2 ^ 20) : wpAny (model prog w) A (binaryOp .Mult (.float (hf a) t) (.int n u)) Q E s :=
  AutoFloatOps.mul_fi_1 (notInf_ofInt (by omega)) (by show Q (.float (mul (hf a) (ofInt n)) s.toks) _; rw [ofInt_hf (by omega), mul_hf (by omega) hn hn' h0]; exact h)
theorem k_mulT (h : Q (.float (mul TROP (hf (2 * n))) s.toks) { s with toks := s.toks + 1 }) (hn : n.natAbs < 2 ^ 50) : wpAny (model prog w) A (binaryOp .Mult (.float TROP t) (.int n u)) Q E s :=
  AutoFloatOps.mul_fi_1 (notInf_ofInt (by omega)) (by show Q (.float (mul TROP (ofInt n)) s.toks) _; rw [ofInt_hf (by omega)]; exact h)
theorem k_modfi (h : ∀ r q, 2 * r = a - 2 * n * q → 0 ≤ r → r < n → Q (.float (hf (2 * r)) s.toks) { s with toks := s.toks + 1 }) (h2 : a % 2 = 0) (ha : a.natAbs < 2 ^ 50) (hn : 0 < n) (hn' : n < 2 ^ 20) : wpAny (model prog w) A (binaryOp .Mod (.float (hf a) t) (.int n u)) Q E s :=
  AutoFloatOps.mod_fi_2 (notInf_ofInt (by omega)) (notZero_ofInt (by omega) (by omega)) (by
    show Q (.float (divmod (hf a) (ofInt n)).2 s.toks) _
    have e : a = 2 * (a / 2) := by omega
    rw [ofInt_hf (by omega), e, mod_hf (by omega) hn (by omega)]
    have d := Int.mul_ediv_add_emod (a / 2) n
    refine h _ (a / 2 / n) ?_ (Int.emod_nonneg _ (by omega)) (Int.emod_lt_of_pos _ hn)
    rw [Int.mul_assoc]; omega)
theorem k_divfi (h : ∀ x k, a = 2 * k → Quot x k n → Q (.float x s.toks) { s with toks := s.toks + 1 }) (h2 : a % 2 = 0) (hk : a.natAbs < 2 ^ 30) (hn : 0 < n) (hn' : n ≤ 2 ^ 20) : wpAny (model prog w) A (binaryOp .Div (.float (hf a) t) (.int n u)) Q E s :=
  AutoFloatOps.truediv_fi_2 (notInf_ofInt (by omega)) (notZero_ofInt (by omega) (by omega)) (by
    show Q (.float (div (hf a) (ofInt n)) s.toks) _
    have e : a = 2 * (a / 2) := by omega
    rw [ofInt_hf (by omega), e]
    exact h _ (a / 2) e (quot_div hn hn' (by omega)))
theorem k_divfi2 (h : ∀ x, Quot x k n → Q (.float x s.toks) { s with toks := s.toks + 1 }) (hk : k.natAbs < 2 ^ 28) (hn : 0 < n) (hn' : n ≤ 2 ^ 20) : wpAny (model prog w) A (binaryOp .Div (.float (hf (2 * k)) t) (.int n u)) Q E s :=
  AutoFloatOps.truediv_fi_2 (notInf_ofInt (by omega)) (notZero_ofInt (by omega) (by omega)) (by
    show Q (.float (div (hf (2 * k)) (ofInt n)) s.toks) _
    rw [ofInt_hf (by omega)]
    exact h _ (quot_div hn hn' (by omega)))
theorem k_modfi2 (h : Q (.float (hf (2 * (k % n))) s.toks) { s with toks := s.toks + 1 }) (hk : k.natAbs < 2 ^ 48) (hn : 0 < n) (hn' : n < 2 ^ 20) : wpAny (model prog w) A (binaryOp .Mod (.float (hf (2 * k)) t) (.int n u)) Q E s :=
  AutoFloatOps.mod_fi_2 (notInf_ofInt (by omega)) (notZero_ofInt (by omega) (by omega)) (by
    show Q (.float (divmod (hf (2 * k)) (ofInt n)).2 s.toks) _
    rw [ofInt_hf (by omega), mod_hf (by omega) hn (by omega)]
    exact h)
theorem k_floorQ2 (hx : Quot x k n) (h : Q (.int (k / n) s.toks) { s with toks := s.toks + 1 }) (hn : 0 < n) (hn' : n ≤ 2 ^ 20) (hA : A.handled = none) : wpAny (model prog w) A (call (.builtin "math.floor") [.float x t]) Q E s :=
  call_floor_float hA (fun c => by rw [(near_fin hx).2.1] at c; cases c) (fun c => by rw [(near_fin hx).2.2] at c; cases c) (fun _ => by rw [(quot_floor hx hn hn').floor]; exact h)
theorem k_divii (h : ∀ x, Quot x k n → Q (.float x s.toks) { s with toks := s.toks + 1 }) (hk : k.natAbs < 2 ^ 30) (hn : 0 < n) (hn' : n ≤ 2 ^ 20) : wpAny (model prog w) A (binaryOp .Div (.int k t) (.int n u)) Q E s := by
  have hq := quot_frac hn hn' hk
  refine AutoIntOps.truediv_2 (by simp; omega) (by rw [(near_fin hq).2.2]; decide) (h _ hq)
theorem k_addQi (h : ∀ y, Quot y (k + n * b) n → Q (.float y s.toks) { s with toks := s.toks + 1 }) (hq : Quot x k n) (hn : 0 < n) (hn' : n ≤ 2 ^ 20) (hk : k.natAbs < 2 ^ 30) (hb : b.natAbs < 2 ^ 30) : wpAny (model prog w) A (binaryOp .Add (.float x t) (.int b u)) Q E s :=
  AutoFloatOps.add_fi_1 (notInf_ofInt (by omega)) (by show Q (.float (add x (ofInt b)) s.toks) _; rw [ofInt_hf (by omega)]; exact h _ (quot_add hq hn hn' hk hb))
theorem k_addiX (h : Q (.float (add (hf (2 * n)) x) s.toks) { s with toks := s.toks + 1 }) (hn : n.natAbs < 2 ^ 50) : wpAny (model prog w) A (binaryOp .Add (.int n u) (.float x t)) Q E s :=
  AutoFloatOps.add_if_1 (notInf_ofInt (by omega)) (by show Q (.float (add (ofInt n) x) s.toks) _; rw [ofInt_hf (by omega)]; exact h)
theorem k_addXi (h : Q (.float (add x (hf (2 * n))) s.toks) { s with toks := s.toks + 1 }) (hn : n.natAbs < 2 ^ 50) : wpAny (model prog w) A (binaryOp .Add (.float x t) (.int n u)) Q E s :=
  AutoFloatOps.add_fi_1 (notInf_ofInt (by omega)) (by show Q (.float (add x (ofInt n)) s.toks) _; rw [ofInt_hf (by omega)]; exact h)
theorem k_divT (h : Q (.float (div (hf a) TROP) s.toks) { s with toks := s.toks + 1 }) : wpAny (model prog w) A (binaryOp .Div (.float (hf a) t) (.float TROP u)) Q E s :=
  AutoFloatOps.truediv_1 trop_notZero h

theorem k_floorFl (hx : FlIs x k) (h : Q (.int k s.toks) { s with toks := s.toks + 1 }) (hA : A.handled = none) : wpAny (model prog w) A (call (.builtin "math.floor") [.float x t]) Q E s :=
  call_floor_float hA (fun c => by rw [hx.fin.2.1] at c; cases c) (fun c => by rw [hx.fin.2.2] at c; cases c) (fun _ => by rw [hx.floor]; exact h)
theorem k_floorQ (hx : Quot x k n) (h : ∀ q, n * q ≤ k → k < n * q + n → Q (.int q s.toks) { s with toks := s.toks + 1 }) (hn : 0 < n) (hn' : n ≤ 2 ^ 20) (hA : A.handled = none) : wpAny (model prog w) A (call (.builtin "math.floor") [.float x t]) Q E s :=
  k_floorFl (quot_floor hx hn hn') (h _ (by rw [Int.mul_comm]; exact Int.ediv_mul_le k (by omega)) (by have := Int.lt_ediv_add_one_mul_self k hn; rw [Int.add_mul, Int.one_mul, Int.mul_comm] at this; exact this)) hA
theorem k_floorH (h : ∀ q, 2 * q ≤ a → a < 2 * q + 2 → Q (.int q s.toks) { s with toks := s.toks + 1 }) (ha : a.natAbs < 2 ^ 50) (hA : A.handled = none) : wpAny (model prog w) A (call (.builtin "math.floor") [.float (hf a) t]) Q E s :=
  k_floorFl (flIs_hf (by omega)) (h _ (by omega) (by omega)) hA
theorem k_ceilQ (hx : Quot x k n) (h : ∀ q, k ≤ n * q → n * q < k + n → Q (.int q s.toks) { s with toks := s.toks + 1 }) (hn : 0 < n) (hn' : n ≤ 2 ^ 20) (hA : A.handled = none) : wpAny (model prog w) A (call (.builtin "math.ceil") [.float x t]) Q E s :=
  call_ceil_float hA (fun c => by rw [(near_fin hx).2.1] at c; cases c) (fun c => by rw [(near_fin hx).2.2] at c; cases c) (fun _ => by
    rw [quot_ceil hx hn hn']
    have e1 := Int.mul_ediv_add_emod (-k) n
    have e2 := Int.emod_nonneg (-k) (by omega : n ≠ 0)
    have e3 := Int.emod_lt_of_pos (-k) hn
    exact h _ (by rw [Int.mul_neg]; omega) (by rw [Int.mul_neg]; omega))
theorem k_round (hx : RoundIs x k) (h : Q (.int k s.toks) { s with toks := s.toks + 1 }) (hA : A.handled = none) : wpAny (model prog w) A (call (.builtin "round") [.float x t]) Q E s :=
  call_round_float hA (fun c => by rw [hx.fin.2.1] at c; cases c) (fun c => by rw [hx.fin.2.2] at c; cases c) (fun _ => by
    obtain ⟨sg, m, e, hd, hn⟩ := hx
    rw [toInt_fin hd, hn]
    exact h)
theorem k_intH (h : ∀ q, a = 2 * q → Q (.int q s.toks) { s with toks := s.toks + 1 }) (h2 : a % 2 = 0) (ha : a.natAbs < 2 ^ 50) : wpAny (model prog w) A (call (.type "int") [.float (hf a) t]) Q E s := by
  obtain ⟨m, e, hd, ht⟩ := trunc_hf (k := a / 2) (by omega)
  have e1 : 2 * (a / 2) = a := by omega
  rw [e1] at hd ht
  refine call_int_float hd ?_
  rw [ht]
  exact h _ e1.symm

theorem k_ltfi (h : Q (.bool (decide (a < 2 * n))) s) (ha : a.natAbs < 2 ^ 50) : wpAny (model prog w) A (compareOp .Lt (.float (hf a) t) (.int n u)) Q E s :=
  lt_fi (by
    rw [cmpInt_hf (by omega)]
    have : (some (compare a (2 * n)) == some Ordering.lt) = decide (a < 2 * n) := by
      by_cases hl : a < 2 * n
      · rw [Int.compare_eq_lt.mpr hl, decide_eq_true hl]; rfl
      · rw [decide_eq_false hl]
        rcases (by omega : a = 2 * n ∨ 2 * n < a) with h1 | h1
        · rw [h1]; simp
        · rw [Int.compare_eq_gt.mpr h1]; rfl
    rw [this]; exact h)
theorem k_lefi (h : Q (.bool (decide (a ≤ 2 * n))) s) (ha : a.natAbs < 2 ^ 50) : wpAny (model prog w) A (compareOp .LtE (.float (hf a) t) (.int n u)) Q E s :=
  le_fi (by
    rw [cmpInt_hf (by omega)]
    have : (some (compare a (2 * n)) == some Ordering.lt || some (compare a (2 * n)) == some Ordering.eq) = decide (a ≤ 2 * n) := by
      rcases Int.lt_trichotomy a (2 * n) with h1 | h1 | h1
      · rw [Int.compare_eq_lt.mpr h1, decide_eq_true (by omega)]; rfl
      · rw [h1]; simp
      · rw [Int.compare_eq_gt.mpr h1, decide_eq_false (by omega)]; rfl
    rw [this]; exact h)
theorem k_gtfi (h : Q (.bool (decide (2 * n < a))) s) (ha : a.natAbs < 2 ^ 50) : wpAny (model prog w) A (compareOp .Gt (.float (hf a) t) (.int n u)) Q E s :=
  gt_fi (by
    rw [cmpInt_hf (by omega)]
    have : (some (compare a (2 * n)) == some Ordering.gt) = decide (2 * n < a) := by
      rcases Int.lt_trichotomy a (2 * n) with h1 | h1 | h1
      · rw [Int.compare_eq_lt.mpr h1, decide_eq_false (by omega)]; rfl
      · rw [h1]; simp
      · rw [Int.compare_eq_gt.mpr h1, decide_eq_true (by omega)]; rfl
    rw [this]; exact h)
theorem k_neff (h : Q (.bool (decide (a ≠ b))) s) (ha : a.natAbs < 2 ^ 50) (hb : b.natAbs < 2 ^ 50) : wpAny (model prog w) A (compareOp .NotEq (.float (hf a) t) (.float (hf b) u)) Q E s :=
  AutoFloatOps.ne_0 (by
    rw [cmp_hf (by omega) (by omega)]
    have : (some (compare a b) != some Ordering.eq) = decide (a ≠ b) := by
      rcases Int.lt_trichotomy a b with h1 | h1 | h1
      · rw [Int.compare_eq_lt.mpr h1, decide_eq_true (by omega)]; rfl
      · rw [h1]; simp
      · rw [Int.compare_eq_gt.mpr h1, decide_eq_true (by omega)]; rfl
    rw [this]; exact h)
theorem k_gtiF (hx : FlIs x k) (h : Q (.bool (decide (k < n))) s) : wpAny (model prog w) A (compareOp .Gt (.int n u) (.float x t)) Q E s :=
  gt_if (by rw [(cmpInt_FlIs hx n).1]; exact h)
theorem k_leiF (hx : FlIs x k) (h : Q (.bool (decide (n ≤ k))) s) : wpAny (model prog w) A (compareOp .LtE (.int n u) (.float x t)) Q E s :=
  le_if (by rw [(cmpInt_FlIs hx n).2]; exact h)
theorem k_ltFi (hx : FlIs x k) (h : Q (.bool (decide (k < n))) s) : wpAny (model prog w) A (compareOp .Lt (.float x t) (.int n u)) Q E s :=
  lt_fi (by rw [(cmpInt_FlIs hx n).1]; exact h)
end
end Mine.Flo

end

section
open PySem PySem.W PyProof.Rows PySem.Spec PySem.Calls
set_option Elab.async false
set_option maxRecDepth 100000
namespace Mine
abbrev Led := List (Addr × Obj)

/-- what holds at a call of the def at f with the values vs, within a frame, where the ledger holds need: D frames and U units of room are asked; Ret says what may come back -/
def Says (w : World) (need : Led) (f : Addr) (vs : List Value) (D U : Nat) (Ret : Heap → Addr → (Str → Option Value) → Led → Shared → (Value → Shared → Prop) → Prop) : Prop :=
  ∀ (pg : Program) (loose : List Str) (mean : ExcName → Option Value) (mg mb : Str → Option Value) (news : Led) (dp un : Nat) (gd : Option (List Code)) (cn : Str) (cs : Scope) (a : Addr) (ccd : Value) (cl : List (Str × Addr)) (outer : List Env) (A₀ : Around) (base h₀ : Heap) (L : Addr) (m : Str → Option Value) (s : Shared) (Q E : Value → Shared → Prop),
    Below A₀ base outer h₀ → Fr h₀ L s.heap m → (hd.heap_39 w.params).In h₀ → News h₀ L s.heap news → Top pg loose mean mg mb h₀ → cs.kind = .function → (∀ p ∈ need, p ∈ news) → dp + D < recursionLimit → un + U < cLine →
    Ret h₀ L m news s Q →
      wpAny (model PySem.Challenge.rw_ad5014_01.row.prog w) (ktrTop dp un gd cn cs L a ccd cl outer) (call (.ref f) vs) Q E s

abbrev RetB (x : Bool) (h₀ : Heap) (L : Addr) (m : Str → Option Value) (news : Led) (s : Shared) (Q : Value → Shared → Prop) : Prop :=
  ∀ (h' : Heap) (tk' : Nat), Fr h₀ L h' m → News h₀ L h' news → Q (.bool x) { s with heap := h', toks := tk' }
abbrev RetI (x : Int) (h₀ : Heap) (L : Addr) (m : Str → Option Value) (news : Led) (s : Shared) (Q : Value → Shared → Prop) : Prop :=
  ∀ (t : Tok) (h' : Heap) (tk' : Nat), Fr h₀ L h' m → News h₀ L h' news → Q (.int x t) { s with heap := h', toks := tk' }
/-- a float of halves -/
abbrev RetF (x : Int) (h₀ : Heap) (L : Addr) (m : Str → Option Value) (news : Led) (s : Shared) (Q : Value → Shared → Prop) : Prop :=
  ∀ (t : Tok) (h' : Heap) (tk' : Nat), Fr h₀ L h' m → News h₀ L h' news → Q (.float (Flo.hf x) t) { s with heap := h', toks := tk' }
/-- a float of halves, within P -/
abbrev RetFP (P : Int → Prop) (h₀ : Heap) (L : Addr) (m : Str → Option Value) (news : Led) (s : Shared) (Q : Value → Shared → Prop) : Prop :=
  ∀ (x : Int) (t : Tok) (h' : Heap) (tk' : Nat), P x → Fr h₀ L h' m → News h₀ L h' news → Q (.float (Flo.hf x) t) { s with heap := h', toks := tk' }
def tupOf (vs : List Value) : Obj := { cls := .type "tuple", data := .seq vs.toArray }
/-- a tuple of three ints, within P -/
abbrev RetT3 (P : Int → Int → Int → Prop) (h₀ : Heap) (L : Addr) (m : Str → Option Value) (news : Led) (s : Shared) (Q : Value → Shared → Prop) : Prop :=
  ∀ (x : Addr) (y mo d : Int) (t1 t2 t3 : Tok) (h' : Heap) (tk' : Nat), P y mo d → Fr h₀ L h' m → News h₀ L h' ((x, { cls := .type "tuple", data := .seq #[.int y t1, .int mo t2, .int d t3] }) :: news) → (∀ p ∈ news, p.1 < x) → Q (.ref x) { s with heap := h', toks := tk' }
abbrev RetT2 (P : Int → Int → Prop) (h₀ : Heap) (L : Addr) (m : Str → Option Value) (news : Led) (s : Shared) (Q : Value → Shared → Prop) : Prop :=
  ∀ (x : Addr) (y mo : Int) (t1 t2 : Tok) (h' : Heap) (tk' : Nat), P y mo → Fr h₀ L h' m → News h₀ L h' ((x, { cls := .type "tuple", data := .seq #[.int y t1, .int mo t2] }) :: news) → (∀ p ∈ news, p.1 < x) → Q (.ref x) { s with heap := h', toks := tk' }

section
variable {h₀ h' : Heap} {L : Addr} {m : Str → Option Value} {news : Led} {s : Shared} {Q : Value → Shared → Prop} {t : Tok} {tk' : Nat}
theorem endB {x y : Bool} (hret : RetB x h₀ L m news s Q) (F : Fr h₀ L h' m) (N : News h₀ L h' news) (e : y = x) : Q (.bool y) { s with heap := h', toks := tk' } := by
  subst e; exact hret _ _ F N
theorem endI {x y : Int} (hret : RetI x h₀ L m news s Q) (F : Fr h₀ L h' m) (N : News h₀ L h' news) (e : y = x) : Q (.int y t) { s with heap := h', toks := tk' } := by
  subst e; exact hret _ _ _ F N
theorem endT3 {P : Int → Int → Int → Prop} {x : Addr} {y mo d : Int} {t1 t2 t3 : Tok} (hret : RetT3 P h₀ L m news s Q) (F : Fr h₀ L h' m) (N : News h₀ L h' ((x, { cls := .type "tuple", data := .seq #[.int y t1, .int mo t2, .int d t3] }) :: news)) (l : ∀ p ∈ news, p.1 < x) (e : P y mo d) : Q (.ref x) { s with heap := h', toks := tk' } := hret _ _ _ _ _ _ _ _ _ e F N l
theorem endT2 {P : Int → Int → Prop} {x : Addr} {y mo : Int} {t1 t2 : Tok} (hret : RetT2 P h₀ L m news s Q) (F : Fr h₀ L h' m) (N : News h₀ L h' ((x, { cls := .type "tuple", data := .seq #[.int y t1, .int mo t2] }) :: news)) (l : ∀ p ∈ news, p.1 < x) (e : P y mo) : Q (.ref x) { s with heap := h', toks := tk' } := hret _ _ _ _ _ _ _ e F N l
theorem endFP {P : Int → Prop} {y : Int} (hret : RetFP P h₀ L m news s Q) (F : Fr h₀ L h' m) (N : News h₀ L h' news) (e : P y) : Q (.float (Flo.hf y) t) { s with heap := h', toks := tk' } := hret _ _ _ _ e F N
theorem endF {x y : Int} (hret : RetF x h₀ L m news s Q) (F : Fr h₀ L h' m) (N : News h₀ L h' news) (e : y = x) : Q (.float (Flo.hf y) t) { s with heap := h', toks := tk' } := by
  subst e; exact hret _ _ _ F N
end

theorem need_nil {news : Led} : ∀ p ∈ ([] : Led), p ∈ news := fun _ hp => nomatch hp
theorem need_cons {need news : Led} {q : Addr × Obj} (h : ∀ p ∈ need, p ∈ news) : ∀ p ∈ need, p ∈ q :: news := fun p hp => List.mem_cons_of_mem _ (h p hp)
theorem news_drop {h₀ h : Heap} {L : Addr} {news : Led} {q : Addr × Obj} (N : News h₀ L h (q :: news)) : News h₀ L h news := fun p hp => N p (List.mem_cons_of_mem _ hp)
theorem need_one {news : Led} {q : Addr × Obj} (h : q ∈ news) : ∀ p ∈ [q], p ∈ news := fun p hp => by rw [List.mem_singleton.mp hp]; exact h
theorem gen_tk {M : Model} {A : Around} {tr : Sem Flow} {Q : Flow → Shared → Prop} {E : Value → Shared → Prop} {h gs d k o} (H : ∀ tk, wpAny M A tr Q E ⟨h, gs, d, tk, o⟩) : wpAny M A tr Q E ⟨h, gs, d, k, o⟩ := H k
/-- a cut behind a statement that turns one name, x, an int: all that is kept of it is P -/
def CutI (x : Str) (P : Int → Prop) (h₀ : Heap) (L : Addr) (m : Str → Option Value) (news : Led) (s : Shared) (f : Flow) (s' : Shared) : Prop :=
  f = .next ∧ ∃ (Y : Int) (t : Tok) (h' : Heap) (tk' : Nat), s' = { s with heap := h', toks := tk' } ∧ P Y ∧ Fr h₀ L h' (fun y => if y = x then some (.int Y t) else m y) ∧ News h₀ L h' news
def CutMark (_x : Str) (_P : Int → Prop) : Prop := True
section
variable {M : Model} {A : Around} {tr : Sem Flow} {E : Value → Shared → Prop} {s : Shared} {x : Str} {P : Int → Prop} {h₀ h' : Heap} {L : Addr} {m m' : Str → Option Value} {news news' : Led} {Q : Flow → Shared → Prop} {t : Tok} {tk' : Nat}
theorem cutI (_cm : CutMark x P) (_F : Fr h₀ L s.heap m) (_N : News h₀ L s.heap news) (h1 : wpAny M A tr (CutI x P h₀ L m news s) E s)
    (h2 : ∀ (Y : Int) (t : Tok) (h' : Heap) (tk' : Nat), P Y → Fr h₀ L h' (fun y => if y = x then some (.int Y t) else m y) → News h₀ L h' news → Q .next { s with heap := h', toks := tk' }) : wpAny M A tr Q E s :=
  wpAny_mono h1 (by rintro f s' ⟨rfl, Y, t, h', tk', rfl, hP, F, N⟩; exact h2 Y t h' tk' hP F N) (fun _ _ h => h)
theorem cutI_end {Y : Int} (F' : Fr h₀ L h' m') (N' : News h₀ L h' news') (hn : ∀ p ∈ news, p ∈ news') (hm : ∀ y, y ≠ x → m' y = m y) (hx : m' x = some (.int Y t)) (hP : P Y) : CutI x P h₀ L m news s .next { s with heap := h', toks := tk' } := by
  refine ⟨rfl, Y, t, h', tk', rfl, hP, ?_, fun p hp => N' p (hn p hp)⟩
  have : m' = fun y => if y = x then some (.int Y t) else m y := by
    funext y
    by_cases h : y = x
    · subst h; rw [hx, if_pos rfl]
    · rw [hm y h, if_neg h]
  rw [← this]
  exact F'
end

section
variable {w : World} {need : Led} {f : Addr} {vs : List Value} {D U : Nat} {Ret : Heap → Addr → (Str → Option Value) → Led → Shared → (Value → Shared → Prop) → Prop}
  {pg : Program} {loose : List Str} {mean : ExcName → Option Value} {mg mb : Str → Option Value} {news : Led} {dp un : Nat} {gd : Option (List Code)} {cn : Str} {cs : Scope} {a : Addr} {ccd : Value} {cl : List (Str × Addr)} {outer : List Env} {A₀ : Around} {base h₀ : Heap} {L : Addr} {m : Str → Option Value} {s : Shared} {Q E : Value → Shared → Prop}
theorem Says.use (C : Says w need f vs D U Ret) (B : Below A₀ base outer h₀) (F : Fr h₀ L s.heap m) (X : (hd.heap_39 w.params).In h₀) (N : News h₀ L s.heap news) (T : Top pg loose mean mg mb h₀) (hk : cs.kind = .function) (hn : ∀ p ∈ need, p ∈ news) (hd : dp + D < recursionLimit) (hu : un + U < cLine)
    (h : Ret h₀ L m news s Q) : wpAny (model PySem.Challenge.rw_ad5014_01.row.prog w) (ktrTop dp un gd cn cs L a ccd cl outer) (call (.ref f) vs) Q E s :=
  C _ _ _ _ _ _ _ _ _ _ _ _ _ _ _ _ _ _ _ _ _ _ _ B F X N T hk hn hd hu h
end
end Mine

end

section
open PySem PySem.W PyProof.Rows PySem.Spec PySem.Calls
set_option Elab.async false
set_option maxRecDepth 100000
namespace Mine
local macro_rules | `(tactic| walk_at "eval Constant float") => `(tactic| (k_dflt (refine Flo.k_const Flo.half_lit ?_)))
local macro_rules | `(tactic| walk_at "binaryOp Sub float float") => `(tactic| (k_dflt ((fail_if_success (with_reducible show wpAny _ _ (binaryOp _ _ (Value.float (Flo.hf _) _)) _ _ _)); (fail_if_success (with_reducible show wpAny _ _ (binaryOp _ _ (Value.float Flo.TROP _)) _ _ _)); refine Flo.k_subL Flo.epg_lit ?_)))
local macro_rules | `(tactic| walk_at "binaryOp Sub float float") => `(tactic| (k_dflt ((fail_if_success (with_reducible show wpAny _ _ (binaryOp _ _ (Value.float (Flo.hf _) _)) _ _ _)); (fail_if_success (with_reducible show wpAny _ _ (binaryOp _ _ (Value.float Flo.TROP _)) _ _ _)); refine Flo.k_subL Flo.epp_lit ?_)))
local macro_rules | `(tactic| walk_at "binaryOp Sub int float") => `(tactic| (k_dflt ((fail_if_success (with_reducible show wpAny _ _ (binaryOp _ _ (Value.float (Flo.hf _) _)) _ _ _)); (fail_if_success (with_reducible show wpAny _ _ (binaryOp _ _ (Value.float Flo.TROP _)) _ _ _)); refine Flo.k_subL Flo.epp_lit ?_)))
local macro_rules | `(tactic| walk_at "binaryOp Sub float int") => `(tactic| (k_dflt ((fail_if_success (with_reducible show wpAny _ _ (binaryOp _ (Value.float (Flo.hf _) _) _) _ _ _)); (fail_if_success (with_reducible show wpAny _ _ (binaryOp _ (Value.float Flo.TROP _) _) _ _ _)); refine Flo.k_Lsub Flo.epg_lit ?_)))
local macro_rules | `(tactic| walk_at "binaryOp Sub float int") => `(tactic| (k_dflt ((fail_if_success (with_reducible show wpAny _ _ (binaryOp _ (Value.float (Flo.hf _) _) _) _ _ _)); (fail_if_success (with_reducible show wpAny _ _ (binaryOp _ (Value.float Flo.TROP _) _) _ _ _)); refine Flo.k_Lsub Flo.epp_lit ?_)))
local macro_rules | `(tactic| walk_at "binaryOp Mult float int") => `(tactic| (k_dflt ((fail_if_success (with_reducible show wpAny _ _ (binaryOp _ (Value.float (Flo.hf _) _) _) _ _ _)); (fail_if_success (with_reducible show wpAny _ _ (binaryOp _ (Value.float Flo.TROP _) _) _ _ _)); refine Flo.k_Lmul Flo.trop_lit ?_)))
local macro_rules | `(tactic| walk_at "binaryOp Div float float") => `(tactic| (k_dflt ((fail_if_success (with_reducible show wpAny _ _ (binaryOp _ _ (Value.float (Flo.hf _) _)) _ _ _)); (fail_if_success (with_reducible show wpAny _ _ (binaryOp _ _ (Value.float Flo.TROP _)) _ _ _)); refine Flo.k_divL Flo.trop_lit ?_)))
local macro_rules | `(tactic| walk_at "binaryOp Add int float") => `(tactic| (k_dflt ((fail_if_success (with_reducible show wpAny _ _ (binaryOp _ _ (Value.float (Flo.hf _) _)) _ _ _)); (fail_if_success (with_reducible show wpAny _ _ (binaryOp _ _ (Value.float Flo.TROP _)) _ _ _)); refine Flo.k_addL Flo.trop_lit ?_)))
local macro_rules | `(tactic| walk_at "binaryOp Add int bool") => `(tactic| (first | refine' Flo.k_addit ?_ | refine' Flo.k_addif0 ?_))
local macro_rules | `(tactic| walk_at "binaryOp Add float float") => `(tactic| ((with_reducible show wpAny _ _ (binaryOp _ (Value.float (Flo.hf _) _) (Value.float (Flo.hf _) _)) _ _ _); refine' Flo.k_addff ?_ ?a0 ?a1; (case a0 => k_dflt omega); (case a1 => k_dflt omega)))
local macro_rules | `(tactic| walk_at "binaryOp Sub float float") => `(tactic| ((with_reducible show wpAny _ _ (binaryOp _ (Value.float (Flo.hf _) _) (Value.float (Flo.hf _) _)) _ _ _); refine' Flo.k_subff ?_ ?a0 ?a1; (case a0 => k_dflt omega); (case a1 => k_dflt omega)))
local macro_rules | `(tactic| walk_at "binaryOp Add float int") => `(tactic| ((fail_if_success (with_reducible show wpAny _ _ (binaryOp _ (Value.float (Flo.hf _) _) _) _ _ _)); refine' Flo.k_addQi ?_ ?hq ?h1 ?h2 ?h3 ?h4; (case hq => with_reducible assumption); (case h1 => k_dflt decide); (case h2 => k_dflt decide); (case h3 => k_dflt omega); (case h4 => k_dflt omega); intro _ _))
local macro_rules | `(tactic| walk_at "binaryOp Add float int") => `(tactic| ((with_reducible show wpAny _ _ (binaryOp _ (Value.float (Flo.hf _) _) (Value.int _ _)) _ _ _); refine' Flo.k_addfi ?_ ?a ?b; (case a => k_dflt omega); (case b => k_dflt omega)))
local macro_rules | `(tactic| walk_at "binaryOp Add int float") => `(tactic| ((with_reducible show wpAny _ _ (binaryOp _ (Value.int _ _) (Value.float Flo.TROP _)) _ _ _); refine' Flo.k_addiX ?_ ?a0; (case a0 => k_dflt omega)))
local macro_rules | `(tactic| walk_at "binaryOp Add float int") => `(tactic| ((with_reducible show wpAny _ _ (binaryOp _ (Value.float (Float64.add _ _) _) (Value.int _ _)) _ _ _); refine' Flo.k_addXi ?_ ?a0; (case a0 => k_dflt omega)))
local macro_rules | `(tactic| walk_at "binaryOp Add int float") => `(tactic| ((with_reducible show wpAny _ _ (binaryOp _ (Value.int _ _) (Value.float (Flo.hf _) _)) _ _ _); refine' Flo.k_addif ?_ ?a0 ?a1; (case a0 => k_dflt omega); (case a1 => k_dflt omega)))
local macro_rules | `(tactic| walk_at "binaryOp Sub float int") => `(tactic| ((with_reducible show wpAny _ _ (binaryOp _ (Value.float (Flo.hf _) _) (Value.int _ _)) _ _ _); refine' Flo.k_subfi ?_ ?a0 ?a1; (case a0 => k_dflt omega); (case a1 => k_dflt omega)))
local macro_rules | `(tactic| walk_at "binaryOp Sub int float") => `(tactic| ((with_reducible show wpAny _ _ (binaryOp _ (Value.int _ _) (Value.float (Flo.hf _) _)) _ _ _); refine' Flo.k_subif ?_ ?a0 ?a1; (case a0 => k_dflt omega); (case a1 => k_dflt omega)))
local macro_rules | `(tactic| walk_at "binaryOp Mult float int") => `(tactic| ((with_reducible show wpAny _ _ (binaryOp _ (Value.float (Flo.hf _) _) (Value.int _ _)) _ _ _); refine' Flo.k_mulfi ?_ ?a0 ?a1 ?a2 ?a3; (case a0 => k_dflt omega); (case a1 => k_dflt omega); (case a2 => k_dflt decide); (case a3 => k_dflt decide)))
local macro_rules | `(tactic| walk_at "binaryOp Mult float int") => `(tactic| ((with_reducible show wpAny _ _ (binaryOp _ (Value.float Flo.TROP _) (Value.int _ _)) _ _ _); refine' Flo.k_mulT ?_ ?a0; (case a0 => k_dflt omega)))
local macro_rules | `(tactic| walk_at "binaryOp Mod float int") => `(tactic| ((with_reducible show wpAny _ _ (binaryOp _ (Value.float (Flo.hf _) _) (Value.int _ _)) _ _ _); refine' Flo.k_modfi ?_ ?a0 ?a1 ?a2 ?a3; (case a0 => k_dflt omega); (case a1 => k_dflt omega); (case a2 => k_dflt decide); (case a3 => k_dflt decide); intro _ _ _ _ _))
local macro_rules | `(tactic| walk_at "binaryOp Mod float int") => `(tactic| ((with_reducible show wpAny _ _ (binaryOp _ (Value.float (Flo.hf (2 * _)) _) (Value.int _ _)) _ _ _); refine' Flo.k_modfi2 ?_ ?a0 ?a1 ?a2; (case a0 => k_dflt omega); (case a1 => k_dflt decide); (case a2 => k_dflt decide)))
local macro_rules | `(tactic| walk_at "binaryOp Div float int") => `(tactic| ((with_reducible show wpAny _ _ (binaryOp _ (Value.float (Flo.hf _) _) (Value.int _ _)) _ _ _); refine' Flo.k_divfi ?_ ?a0 ?a1 ?a2 ?a3; (case a0 => k_dflt omega); (case a1 => k_dflt omega); (case a2 => k_dflt decide); (case a3 => k_dflt decide); intro _ _ _ _))
local macro_rules | `(tactic| walk_at "binaryOp Div float int") => `(tactic| ((with_reducible show wpAny _ _ (binaryOp _ (Value.float (Flo.hf (2 * _)) _) (Value.int _ _)) _ _ _); refine' Flo.k_divfi2 ?_ ?a0 ?a1 ?a2; (case a0 => k_dflt omega); (case a1 => k_dflt decide); (case a2 => k_dflt decide); intro _ _))
local macro_rules | `(tactic| walk_at "binaryOp Div float float") => `(tactic| ((with_reducible show wpAny _ _ (binaryOp _ (Value.float (Flo.hf _) _) (Value.float Flo.TROP _)) _ _ _); refine Flo.k_divT ?_))
local macro_rules | `(tactic| walk_at "binaryOp Div int int") => `(tactic| (refine' Flo.k_divii ?_ ?a0 ?a1 ?a2; (case a0 => k_dflt omega); (case a1 => k_dflt decide); (case a2 => k_dflt decide); intro _ _))
local macro_rules | `(tactic| walk_at "call builtin:math.floor") => `(tactic| ((with_reducible show wpAny _ _ (call _ [(Value.float (Flo.hf _) _)]) _ _ _); refine' Flo.k_floorH ?_ ?h1 ?h2; (case h1 => k_dflt omega); (case h2 => k_dflt exact rfl); intro _ _ _))
local macro_rules | `(tactic| walk_at "call builtin:math.floor") => `(tactic| ((fail_if_success (with_reducible show wpAny _ _ (call _ [(Value.float (Flo.hf _) _)]) _ _ _)); refine' Flo.k_floorQ ?hq ?_ ?h1 ?h2 ?h3; (case hq => with_reducible assumption); (case h1 => k_dflt decide); (case h2 => k_dflt decide); (case h3 => k_dflt exact rfl); intro _ _ _))
local macro_rules | `(tactic| walk_at "call builtin:math.floor") => `(tactic| ((fail_if_success (with_reducible show wpAny _ _ (call _ [(Value.float (Flo.hf _) _)]) _ _ _)); refine' Flo.k_floorFl ?hq ?_ ?h3; (case hq => with_reducible assumption); (case h3 => k_dflt exact rfl)))
local macro_rules | `(tactic| walk_at "call builtin:math.ceil") => `(tactic| ((fail_if_success (with_reducible show wpAny _ _ (call _ [(Value.float (Flo.hf _) _)]) _ _ _)); refine' Flo.k_ceilQ ?hq ?_ ?h1 ?h2 ?h3; (case hq => with_reducible assumption); (case h1 => k_dflt decide); (case h2 => k_dflt decide); (case h3 => k_dflt exact rfl); intro _ _ _))
local macro_rules | `(tactic| walk_at "call builtin:round") => `(tactic| ((fail_if_success (with_reducible show wpAny _ _ (call _ [(Value.float (Flo.hf _) _)]) _ _ _)); refine' Flo.k_round ?hq ?_ ?h3; (case hq => with_reducible assumption); (case h3 => k_dflt exact rfl)))
local macro_rules | `(tactic| walk_at "call type:int") => `(tactic| ((with_reducible show wpAny _ _ (call _ [(Value.float (Flo.hf _) _)]) _ _ _); refine' Flo.k_intH ?_ ?h1 ?h2; (case h1 => k_dflt omega); (case h2 => k_dflt omega); intro _ _))
local macro_rules | `(tactic| walk_at "compareOp Lt float int") => `(tactic| ((with_reducible show wpAny _ _ (compareOp _ (Value.float (Flo.hf _) _) (Value.int _ _)) _ _ _); refine' Flo.k_ltfi ?_ ?h1; (case h1 => k_dflt omega)))
local macro_rules | `(tactic| walk_at "compareOp LtE float int") => `(tactic| ((with_reducible show wpAny _ _ (compareOp _ (Value.float (Flo.hf _) _) (Value.int _ _)) _ _ _); refine' Flo.k_lefi ?_ ?h1; (case h1 => k_dflt omega)))
local macro_rules | `(tactic| walk_at "compareOp Gt float int") => `(tactic| ((with_reducible show wpAny _ _ (compareOp _ (Value.float (Flo.hf _) _) (Value.int _ _)) _ _ _); refine' Flo.k_gtfi ?_ ?h1; (case h1 => k_dflt omega)))
local macro_rules | `(tactic| walk_at "compareOp NotEq float float") => `(tactic| ((with_reducible show wpAny _ _ (compareOp _ (Value.float (Flo.hf _) _) (Value.float (Flo.hf _) _)) _ _ _); refine' Flo.k_neff ?_ ?h1 ?h2; (case h1 => k_dflt omega); (case h2 => k_dflt omega)))
local macro_rules | `(tactic| walk_at "compareOp Gt int float") => `(tactic| (refine' Flo.k_gtiF ?hq ?_; (case hq => with_reducible assumption)))
local macro_rules | `(tactic| walk_at "compareOp LtE int float") => `(tactic| (refine' Flo.k_leiF ?hq ?_; (case hq => with_reducible assumption)))
local macro_rules | `(tactic| walk_at "compareOp Lt float int") => `(tactic| ((fail_if_success (with_reducible show wpAny _ _ (compareOp _ (Value.float (Flo.hf _) _) _) _ _ _)); refine' Flo.k_ltFi ?hq ?_; (case hq => with_reducible assumption)))
local macro_rules | `(tactic| walk_at "eval Call") => `(tactic| (k_dflt (refine Call_ ?_)))
local macro_rules | `(tactic| walk_at "execs cons") => `(tactic| (k_here; (with_reducible refine gen_tk ?_); intro _; (with_reducible refine wpAny_execs_cons ?_); (try dsimp only)))
local macro_rules | `(tactic| walk_at "my need") => `(tactic| first | exact need_nil | assumption)
def leapB (y : Int) : Bool := decide (y % 4 = 0 ∧ (y % 100 ≠ 0 ∨ y % 400 = 0))
def lp (y : Int) : Int := if leapB y then 1 else 0
/-- the month's days -/
def ml (y m : Int) : Int := if m = 2 then 28 + lp y else if m = 4 ∨ m = 6 ∨ m = 9 ∨ m = 11 then 30 else 31
/-- the year's first day -/
def yo (y : Int) : Int := 1721426 + 365 * (y - 1) + (y - 1) / 4 - (y - 1) / 100 + (y - 1) / 400
/-- the days of the year ahead of the month -/
def cum (m l : Int) : Int := (367 * m - 362) / 12 + (if m ≤ 2 then 0 else l - 2)
def gjd (y m d : Int) : Int := yo y + cum m (lp y) + d - 1

set_option maxHeartbeats 4000000 in
theorem c_isleap (w : World) (y : Int) (t : Tok) (b : Bool) (hb : leapB y = b) : Says w [] 50 [.int y t] 1 8 (RetB b) := by
  unfold Says
  k_fill
  intro pg loose mean mg mb news dp un gd cn cs a ccd cl outer A₀ base h₀ L m s Q E B F X N T hk hn9 hd9 hu9 hret
  refine wpAny_call ?_
  k_dflt (refine' code_def (binds := [(Str.ofString "year", .int y t)]) ?k1 ?k2 ?k3 ?k4 ?k5 ?kA ?kF ?kK ?k6 ?k7 ?k8 ?k9 ?kB ?_ ?c2 ?c3 ?c4 ?c5; (case kA => exact rfl); (case kF => exact rfl); (case kK => assumption); (case k1 => k_asm); (case k2 => k_asm); (case k3 => k_asm); (case k4 => k_asm); (case k5 => k_asm); (case k6 => k_is); (case k7 => k_is); (case k8 => ktr_room); (case k9 => exact BindsTo.of_eq rfl); (case c5 => decide); (case kB => exact locs rfl); (case c2 => exact rfl); (case c3 => exact rfl); (case c4 => exact rfl); k_whole; intro g' L' h' FG' F' N' B' X' T'; (try dsimp only [List.reverse_cons, List.reverse_nil, List.nil_append, List.cons_append, List.append_nil]); (try k_lift B'); (try k_fold))
  k_steps
  all_goals refine endB hret (by k_asm) (by k_asm) ?_
  all_goals subst hb
  all_goals clear hret B F X N T
  all_goals unfold leapB
  all_goals simp only [Int.fmod_eq_emod_of_nonneg _ (by decide : (0:Int) ≤ 4), Int.fmod_eq_emod_of_nonneg _ (by decide : (0:Int) ≤ 100), Int.fmod_eq_emod_of_nonneg _ (by decide : (0:Int) ≤ 400)] at *
  · rename_i h1 h2
    have h2' : y % 100 ≠ 0 := by simpa using h2
    have h1' : y % 4 = 0 := by simpa using h1
    simp [h1', h2']
  · rename_i h1 h2
    have h2' : y % 100 = 0 := by simpa using h2
    have h1' : y % 4 = 0 := by simpa using h1
    by_cases h3 : y % 400 = 0 <;> simp [h1', h2', h3]
  · rename_i h1
    have h1' : y % 4 ≠ 0 := by simpa using h1
    simp [h1']

local macro_rules | `(tactic| walk_at "call ref") => `(tactic| (k_here; k_dflt (refine' Says.use (c_isleap _ _ _ _ ?s1) ?k1 ?k2 ?k3 ?k4 ?k5 ?k6 ?k7 ?k8 ?k9 ?_; (case k1 => k_asm); (case k2 => k_asm); (case k3 => k_asm); (case k4 => k_asm); (case k5 => k_asm); (case k6 => first | exact rfl | assumption); (case k7 => walk_at "my need"); (case s1 => first | assumption | omega | decide | exact one_le_ml _ _ | ((try dsimp only); omega)); (case k8 => ktr_room); (case k9 => ktr_units); k_whole; (intro h9 tk9 F9 N9); (all_goals (try dsimp only)); (all_goals (try k_fold)))))

section
variable {prog : Program} {w : World} {A : Around} {E : Value → Shared → Prop} {s : Shared} {h₀ : Heap} {L a : Addr} {m : Str → Option Value} {K : Frag} {n : Nat} {l : List Value} {dd : Option Addr} {sl : Array (Option Value)} {x : Int} {u : Tok} {Q : Value → Shared → Prop}
theorem k_inTup {ns : List Int} {P : Prop} [Decidable P] (F : Fr h₀ L s.heap m) (X : K.In h₀) (hl : K.lookup a = some ⟨.type "tuple", dd, .seq l.toArray n, sl⟩) (hi : IntsAre l ns) (hP : ns.any (· == x) = decide P) (h : Q (.bool (decide P)) s) :
    wpAny (model prog w) A (compareOp .In (.int x u) (.ref a)) Q E s :=
  in_tuple_ints (tupK (X.keeps F.keep) hl) (by simpa using hi) (by rw [hP]; exact h)
theorem any_30g : ([4, 6, 9, 11] : List Int).any (· == x) = decide (x = 4 ∨ x = 6 ∨ x = 9 ∨ x = 11) := by
  rw [Bool.eq_iff_iff]; simp only [List.any_cons, List.any_nil, Bool.or_false, Bool.or_eq_true, beq_iff_eq, decide_eq_true_eq]; omega
theorem any_31p : ([1, 2, 3, 4, 5, 6] : List Int).any (· == x) = decide (1 ≤ x ∧ x ≤ 6) := by
  rw [Bool.eq_iff_iff]; simp only [List.any_cons, List.any_nil, Bool.or_false, Bool.or_eq_true, beq_iff_eq, decide_eq_true_eq]; omega
theorem any_30p : ([7, 8, 9, 10, 11] : List Int).any (· == x) = decide (7 ≤ x ∧ x ≤ 11) := by
  rw [Bool.eq_iff_iff]; simp only [List.any_cons, List.any_nil, Bool.or_false, Bool.or_eq_true, beq_iff_eq, decide_eq_true_eq]; omega
end
local macro_rules | `(tactic| walk_at "compareOp In int ref") => `(tactic| (k_here; k_dflt (first
  | (refine' k_inTup ?F ?X ?l ?i any_30g ?_; (case F => k_asm); (case X => k_asm); (case l => k_is); (case i => repeat constructor); k_whole)
  | (refine' k_inTup ?F ?X ?l ?i any_31p ?_; (case F => k_asm); (case X => k_asm); (case l => k_is); (case i => repeat constructor); k_whole)
  | (refine' k_inTup ?F ?X ?l ?i any_30p ?_; (case F => k_asm); (case X => k_asm); (case l => k_is); (case i => repeat constructor); k_whole))))
theorem lp_t {y : Int} (h : leapB y = true) : lp y = 1 := by unfold lp; rw [h]; rfl
theorem lp_f {y : Int} (h : leapB y = false) : lp y = 0 := by unfold lp; rw [h]; rfl

set_option maxHeartbeats 4000000 in
theorem c_legal (w : World) (y m d : Int) (t1 t2 t3 : Tok) (h1 : 0 < d) (h2 : d ≤ ml y m) : Says w [] 57 [.int y t1, .int m t2, .int d t3] 2 16 (RetB true) := by
  unfold Says
  k_fill
  intro pg loose mean mg mb news dp un gd cn cs a ccd cl outer A₀ base h₀ L mm s Q E B F X N T hk hn9 hd9 hu9 hret
  unfold ml at h2
  cases hb : leapB y
  · rw [lp_f hb] at h2
    refine wpAny_call ?_
    k_dflt (refine' code_def (binds := [(Str.ofString "year", .int y t1), (Str.ofString "month", .int m t2), (Str.ofString "day", .int d t3)]) ?k1 ?k2 ?k3 ?k4 ?k5 ?kA ?kF ?kK ?k6 ?k7 ?k8 ?k9 ?kB ?_ ?c2 ?c3 ?c4 ?c5; (case kA => exact rfl); (case kF => exact rfl); (case kK => assumption); (case k1 => k_asm); (case k2 => k_asm); (case k3 => k_asm); (case k4 => k_asm); (case k5 => k_asm); (case k6 => k_is); (case k7 => k_is); (case k8 => ktr_room); (case k9 => exact BindsTo.of_eq rfl); (case c5 => decide); (case kB => exact locs rfl); (case c2 => exact rfl); (case c3 => exact rfl); (case c4 => exact rfl); k_whole; intro g' L' h' FG' F' N' B' X' T'; (try dsimp only [List.reverse_cons, List.reverse_nil, List.nil_append, List.cons_append, List.append_nil]); (try k_lift B'); (try k_fold))
    k_steps
    all_goals exact endB hret (by k_asm) (by k_asm) rfl
  · rw [lp_t hb] at h2
    refine wpAny_call ?_
    k_dflt (refine' code_def (binds := [(Str.ofString "year", .int y t1), (Str.ofString "month", .int m t2), (Str.ofString "day", .int d t3)]) ?k1 ?k2 ?k3 ?k4 ?k5 ?kA ?kF ?kK ?k6 ?k7 ?k8 ?k9 ?kB ?_ ?c2 ?c3 ?c4 ?c5; (case kA => exact rfl); (case kF => exact rfl); (case kK => assumption); (case k1 => k_asm); (case k2 => k_asm); (case k3 => k_asm); (case k4 => k_asm); (case k5 => k_asm); (case k6 => k_is); (case k7 => k_is); (case k8 => ktr_room); (case k9 => exact BindsTo.of_eq rfl); (case c5 => decide); (case kB => exact locs rfl); (case c2 => exact rfl); (case c3 => exact rfl); (case c4 => exact rfl); k_whole; intro g' L' h' FG' F' N' B' X' T'; (try dsimp only [List.reverse_cons, List.reverse_nil, List.nil_append, List.cons_append, List.append_nil]); (try k_lift B'); (try k_fold))
    k_steps
    all_goals exact endB hret (by k_asm) (by k_asm) rfl

local macro_rules | `(tactic| walk_at "call ref") => `(tactic| (k_here; k_dflt (refine' Says.use (c_legal _ _ _ _ _ _ _ ?s1 ?s2) ?k1 ?k2 ?k3 ?k4 ?k5 ?k6 ?k7 ?k8 ?k9 ?_; (case k1 => k_asm); (case k2 => k_asm); (case k3 => k_asm); (case k4 => k_asm); (case k5 => k_asm); (case k6 => first | exact rfl | assumption); (case k7 => walk_at "my need"); (case s1 => first | assumption | omega | decide | exact one_le_ml _ _ | ((try dsimp only); omega)); (case s2 => first | assumption | omega | decide | exact one_le_ml _ _ | ((try dsimp only); omega)); (case k8 => ktr_room); (case k9 => ktr_units); k_whole; (intro h9 tk9 F9 N9); (all_goals (try dsimp only)); (all_goals (try k_fold)))))

end Mine

end

section
open PySem PySem.W PyProof.Rows PySem.Spec PySem.Calls
set_option Elab.async false
set_option maxRecDepth 100000
namespace Mine
local macro_rules | `(tactic| walk_at "my pad") => `(tactic| skip)
local macro_rules | `(tactic| walk_at "eval Constant float") => `(tactic| (k_dflt (refine Flo.k_const Flo.half_lit ?_)))
local macro_rules | `(tactic| walk_at "binaryOp Sub float float") => `(tactic| (k_dflt ((fail_if_success (with_reducible show wpAny _ _ (binaryOp _ _ (Value.float (Flo.hf _) _)) _ _ _)); (fail_if_success (with_reducible show wpAny _ _ (binaryOp _ _ (Value.float Flo.TROP _)) _ _ _)); refine Flo.k_subL Flo.epg_lit ?_)))
local macro_rules | `(tactic| walk_at "binaryOp Sub float float") => `(tactic| (k_dflt ((fail_if_success (with_reducible show wpAny _ _ (binaryOp _ _ (Value.float (Flo.hf _) _)) _ _ _)); (fail_if_success (with_reducible show wpAny _ _ (binaryOp _ _ (Value.float Flo.TROP _)) _ _ _)); refine Flo.k_subL Flo.epp_lit ?_)))
local macro_rules | `(tactic| walk_at "binaryOp Sub int float") => `(tactic| (k_dflt ((fail_if_success (with_reducible show wpAny _ _ (binaryOp _ _ (Value.float (Flo.hf _) _)) _ _ _)); (fail_if_success (with_reducible show wpAny _ _ (binaryOp _ _ (Value.float Flo.TROP _)) _ _ _)); refine Flo.k_subL Flo.epp_lit ?_)))
local macro_rules | `(tactic| walk_at "binaryOp Sub float int") => `(tactic| (k_dflt ((fail_if_success (with_reducible show wpAny _ _ (binaryOp _ (Value.float (Flo.hf _) _) _) _ _ _)); (fail_if_success (with_reducible show wpAny _ _ (binaryOp _ (Value.float Flo.TROP _) _) _ _ _)); refine Flo.k_Lsub Flo.epg_lit ?_)))
local macro_rules | `(tactic| walk_at "binaryOp Sub float int") => `(tactic| (k_dflt ((fail_if_success (with_reducible show wpAny _ _ (binaryOp _ (Value.float (Flo.hf _) _) _) _ _ _)); (fail_if_success (with_reducible show wpAny _ _ (binaryOp _ (Value.float Flo.TROP _) _) _ _ _)); refine Flo.k_Lsub Flo.epp_lit ?_)))
local macro_rules | `(tactic| walk_at "binaryOp Mult float int") => `(tactic| (k_dflt ((fail_if_success (with_reducible show wpAny _ _ (binaryOp _ (Value.float (Flo.hf _) _) _) _ _ _)); (fail_if_success (with_reducible show wpAny _ _ (binaryOp _ (Value.float Flo.TROP _) _) _ _ _)); refine Flo.k_Lmul Flo.trop_lit ?_)))
local macro_rules | `(tactic| walk_at "binaryOp Div float float") => `(tactic| (k_dflt ((fail_if_success (with_reducible show wpAny _ _ (binaryOp _ _ (Value.float (Flo.hf _) _)) _ _ _)); (fail_if_success (with_reducible show wpAny _ _ (binaryOp _ _ (Value.float Flo.TROP _)) _ _ _)); refine Flo.k_divL Flo.trop_lit ?_)))
local macro_rules | `(tactic| walk_at "binaryOp Add int float") => `(tactic| (k_dflt ((fail_if_success (with_reducible show wpAny _ _ (binaryOp _ _ (Value.float (Flo.hf _) _)) _ _ _)); (fail_if_success (with_reducible show wpAny _ _ (binaryOp _ _ (Value.float Flo.TROP _)) _ _ _)); refine Flo.k_addL Flo.trop_lit ?_)))
local macro_rules | `(tactic| walk_at "binaryOp Add int bool") => `(tactic| (first | refine' Flo.k_addit ?_ | refine' Flo.k_addif0 ?_))
local macro_rules | `(tactic| walk_at "binaryOp Add float float") => `(tactic| ((with_reducible show wpAny _ _ (binaryOp _ (Value.float (Flo.hf _) _) (Value.float (Flo.hf _) _)) _ _ _); refine' Flo.k_addff ?_ ?a0 ?a1; (case a0 => k_dflt omega); (case a1 => k_dflt omega)))
local macro_rules | `(tactic| walk_at "binaryOp Sub float float") => `(tactic| ((with_reducible show wpAny _ _ (binaryOp _ (Value.float (Flo.hf _) _) (Value.float (Flo.hf _) _)) _ _ _); refine' Flo.k_subff ?_ ?a0 ?a1; (case a0 => k_dflt omega); (case a1 => k_dflt omega)))
local macro_rules | `(tactic| walk_at "binaryOp Add float int") => `(tactic| ((fail_if_success (with_reducible show wpAny _ _ (binaryOp _ (Value.float (Flo.hf _) _) _) _ _ _)); refine' Flo.k_addQi ?_ ?hq ?h1 ?h2 ?h3 ?h4; (case hq => with_reducible assumption); (case h1 => k_dflt decide); (case h2 => k_dflt decide); (case h3 => k_dflt omega); (case h4 => k_dflt omega); intro _ _))
local macro_rules | `(tactic| walk_at "binaryOp Add float int") => `(tactic| ((with_reducible show wpAny _ _ (binaryOp _ (Value.float (Flo.hf _) _) (Value.int _ _)) _ _ _); refine' Flo.k_addfi ?_ ?a ?b; (case a => k_dflt omega); (case b => k_dflt omega)))
local macro_rules | `(tactic| walk_at "binaryOp Add int float") => `(tactic| ((with_reducible show wpAny _ _ (binaryOp _ (Value.int _ _) (Value.float Flo.TROP _)) _ _ _); refine' Flo.k_addiX ?_ ?a0; (case a0 => k_dflt omega)))
local macro_rules | `(tactic| walk_at "binaryOp Add float int") => `(tactic| ((with_reducible show wpAny _ _ (binaryOp _ (Value.float (Float64.add _ _) _) (Value.int _ _)) _ _ _); refine' Flo.k_addXi ?_ ?a0; (case a0 => k_dflt omega)))
local macro_rules | `(tactic| walk_at "binaryOp Add int float") => `(tactic| ((with_reducible show wpAny _ _ (binaryOp _ (Value.int _ _) (Value.float (Flo.hf _) _)) _ _ _); refine' Flo.k_addif ?_ ?a0 ?a1; (case a0 => k_dflt omega); (case a1 => k_dflt omega)))
local macro_rules | `(tactic| walk_at "binaryOp Sub float int") => `(tactic| ((with_reducible show wpAny _ _ (binaryOp _ (Value.float (Flo.hf _) _) (Value.int _ _)) _ _ _); refine' Flo.k_subfi ?_ ?a0 ?a1; (case a0 => k_dflt omega); (case a1 => k_dflt omega)))
local macro_rules | `(tactic| walk_at "binaryOp Sub int float") => `(tactic| ((with_reducible show wpAny _ _ (binaryOp _ (Value.int _ _) (Value.float (Flo.hf _) _)) _ _ _); refine' Flo.k_subif ?_ ?a0 ?a1; (case a0 => k_dflt omega); (case a1 => k_dflt omega)))
local macro_rules | `(tactic| walk_at "binaryOp Mult float int") => `(tactic| ((with_reducible show wpAny _ _ (binaryOp _ (Value.float (Flo.hf _) _) (Value.int _ _)) _ _ _); refine' Flo.k_mulfi ?_ ?a0 ?a1 ?a2 ?a3; (case a0 => k_dflt omega); (case a1 => k_dflt omega); (case a2 => k_dflt decide); (case a3 => k_dflt decide)))
local macro_rules | `(tactic| walk_at "binaryOp Mult float int") => `(tactic| ((with_reducible show wpAny _ _ (binaryOp _ (Value.float Flo.TROP _) (Value.int _ _)) _ _ _); refine' Flo.k_mulT ?_ ?a0; (case a0 => k_dflt omega)))
local macro_rules | `(tactic| walk_at "binaryOp Mod float int") => `(tactic| ((with_reducible show wpAny _ _ (binaryOp _ (Value.float (Flo.hf _) _) (Value.int _ _)) _ _ _); refine' Flo.k_modfi ?_ ?a0 ?a1 ?a2 ?a3; (case a0 => k_dflt omega); (case a1 => k_dflt omega); (case a2 => k_dflt decide); (case a3 => k_dflt decide); intro _ _ _ _ _))
local macro_rules | `(tactic| walk_at "binaryOp Mod float int") => `(tactic| ((with_reducible show wpAny _ _ (binaryOp _ (Value.float (Flo.hf (2 * _)) _) (Value.int _ _)) _ _ _); refine' Flo.k_modfi2 ?_ ?a0 ?a1 ?a2; (case a0 => k_dflt omega); (case a1 => k_dflt decide); (case a2 => k_dflt decide)))
local macro_rules | `(tactic| walk_at "binaryOp Div float int") => `(tactic| ((with_reducible show wpAny _ _ (binaryOp _ (Value.float (Flo.hf _) _) (Value.int _ _)) _ _ _); refine' Flo.k_divfi ?_ ?a0 ?a1 ?a2 ?a3; (case a0 => k_dflt omega); (case a1 => k_dflt omega); (case a2 => k_dflt decide); (case a3 => k_dflt decide); intro _ _ _ _))
local macro_rules | `(tactic| walk_at "binaryOp Div float int") => `(tactic| ((with_reducible show wpAny _ _ (binaryOp _ (Value.float (Flo.hf (2 * _)) _) (Value.int _ _)) _ _ _); refine' Flo.k_divfi2 ?_ ?a0 ?a1 ?a2; (case a0 => k_dflt omega); (case a1 => k_dflt decide); (case a2 => k_dflt decide); intro _ _))
local macro_rules | `(tactic| walk_at "binaryOp Div float float") => `(tactic| ((with_reducible show wpAny _ _ (binaryOp _ (Value.float (Flo.hf _) _) (Value.float Flo.TROP _)) _ _ _); refine Flo.k_divT ?_))
local macro_rules | `(tactic| walk_at "binaryOp Div int int") => `(tactic| (refine' Flo.k_divii ?_ ?a0 ?a1 ?a2; (case a0 => k_dflt omega); (case a1 => k_dflt decide); (case a2 => k_dflt decide); intro _ _))
local macro_rules | `(tactic| walk_at "call builtin:math.floor") => `(tactic| ((with_reducible show wpAny _ _ (call _ [(Value.float (Flo.hf _) _)]) _ _ _); refine' Flo.k_floorH ?_ ?h1 ?h2; (case h1 => k_dflt omega); (case h2 => k_dflt exact rfl); intro _ _ _))
local macro_rules | `(tactic| walk_at "call builtin:math.floor") => `(tactic| ((fail_if_success (with_reducible show wpAny _ _ (call _ [(Value.float (Flo.hf _) _)]) _ _ _)); refine' Flo.k_floorQ ?hq ?_ ?h1 ?h2 ?h3; (case hq => with_reducible assumption); (case h1 => k_dflt decide); (case h2 => k_dflt decide); (case h3 => k_dflt exact rfl); intro _ _ _))
local macro_rules | `(tactic| walk_at "call builtin:math.floor") => `(tactic| ((fail_if_success (with_reducible show wpAny _ _ (call _ [(Value.float (Flo.hf _) _)]) _ _ _)); refine' Flo.k_floorFl ?hq ?_ ?h3; (case hq => with_reducible assumption); (case h3 => k_dflt exact rfl)))
local macro_rules | `(tactic| walk_at "call builtin:math.ceil") => `(tactic| ((fail_if_success (with_reducible show wpAny _ _ (call _ [(Value.float (Flo.hf _) _)]) _ _ _)); refine' Flo.k_ceilQ ?hq ?_ ?h1 ?h2 ?h3; (case hq => with_reducible assumption); (case h1 => k_dflt decide); (case h2 => k_dflt decide); (case h3 => k_dflt exact rfl); intro _ _ _))
local macro_rules | `(tactic| walk_at "call builtin:round") => `(tactic| ((fail_if_success (with_reducible show wpAny _ _ (call _ [(Value.float (Flo.hf _) _)]) _ _ _)); refine' Flo.k_round ?hq ?_ ?h3; (case hq => with_reducible assumption); (case h3 => k_dflt exact rfl)))
local macro_rules | `(tactic| walk_at "call type:int") => `(tactic| ((with_reducible show wpAny _ _ (call _ [(Value.float (Flo.hf _) _)]) _ _ _); refine' Flo.k_intH ?_ ?h1 ?h2; (case h1 => k_dflt omega); (case h2 => k_dflt omega); intro _ _))
local macro_rules | `(tactic| walk_at "compareOp Lt float int") => `(tactic| ((with_reducible show wpAny _ _ (compareOp _ (Value.float (Flo.hf _) _) (Value.int _ _)) _ _ _); refine' Flo.k_ltfi ?_ ?h1; (case h1 => k_dflt omega)))
local macro_rules | `(tactic| walk_at "compareOp LtE float int") => `(tactic| ((with_reducible show wpAny _ _ (compareOp _ (Value.float (Flo.hf _) _) (Value.int _ _)) _ _ _); refine' Flo.k_lefi ?_ ?h1; (case h1 => k_dflt omega)))
local macro_rules | `(tactic| walk_at "compareOp Gt float int") => `(tactic| ((with_reducible show wpAny _ _ (compareOp _ (Value.float (Flo.hf _) _) (Value.int _ _)) _ _ _); refine' Flo.k_gtfi ?_ ?h1; (case h1 => k_dflt omega)))
local macro_rules | `(tactic| walk_at "compareOp NotEq float float") => `(tactic| ((with_reducible show wpAny _ _ (compareOp _ (Value.float (Flo.hf _) _) (Value.float (Flo.hf _) _)) _ _ _); refine' Flo.k_neff ?_ ?h1 ?h2; (case h1 => k_dflt omega); (case h2 => k_dflt omega)))
local macro_rules | `(tactic| walk_at "compareOp Gt int float") => `(tactic| (refine' Flo.k_gtiF ?hq ?_; (case hq => with_reducible assumption)))
local macro_rules | `(tactic| walk_at "compareOp LtE int float") => `(tactic| (refine' Flo.k_leiF ?hq ?_; (case hq => with_reducible assumption)))
local macro_rules | `(tactic| walk_at "compareOp Lt float int") => `(tactic| ((fail_if_success (with_reducible show wpAny _ _ (compareOp _ (Value.float (Flo.hf _) _) _) _ _ _)); refine' Flo.k_ltFi ?hq ?_; (case hq => with_reducible assumption)))
local macro_rules | `(tactic| walk_at "eval Call") => `(tactic| (k_dflt (refine Call_ ?_)))
local macro_rules | `(tactic| walk_at "execs cons") => `(tactic| (k_here; (with_reducible refine gen_tk ?_); intro _; (with_reducible refine wpAny_execs_cons ?_); (try dsimp only)))
local macro_rules | `(tactic| walk_at "my need") => `(tactic| first | exact need_nil | assumption)
local macro_rules | `(tactic| walk_at "call ref") => `(tactic| (k_here; k_dflt (refine' Says.use (c_isleap _ _ _ _ ?s1) ?k1 ?k2 ?k3 ?k4 ?k5 ?k6 ?k7 ?k8 ?k9 ?_; (case k1 => k_asm); (case k2 => k_asm); (case k3 => k_asm); (case k4 => k_asm); (case k5 => k_asm); (case k6 => first | exact rfl | assumption); (case k7 => walk_at "my need"); (case s1 => first | assumption | omega | decide | exact one_le_ml _ _ | ((try dsimp only); omega)); (case k8 => ktr_room); (case k9 => ktr_units); k_whole; (intro h9 tk9 F9 N9); (all_goals (try dsimp only)); (all_goals (try k_fold)))))
local macro_rules | `(tactic| walk_at "call ref") => `(tactic| (k_here; k_dflt (refine' Says.use (c_legal _ _ _ _ _ _ _ ?s1 ?s2) ?k1 ?k2 ?k3 ?k4 ?k5 ?k6 ?k7 ?k8 ?k9 ?_; (case k1 => k_asm); (case k2 => k_asm); (case k3 => k_asm); (case k4 => k_asm); (case k5 => k_asm); (case k6 => first | exact rfl | assumption); (case k7 => walk_at "my need"); (case s1 => first | assumption | omega | decide | exact one_le_ml _ _ | ((try dsimp only); omega)); (case s2 => first | assumption | omega | decide | exact one_le_ml _ _ | ((try dsimp only); omega)); (case k8 => ktr_room); (case k9 => ktr_units); k_whole; (intro h9 tk9 F9 N9); (all_goals (try dsimp only)); (all_goals (try k_fold)))))
theorem one_le_ml (y m : Int) : 1 ≤ ml y m := by unfold ml lp; repeat' split <;> omega

set_option maxHeartbeats 4000000 in
theorem c_to_jd (w : World) (y m d : Int) (t1 t2 t3 : Tok) (hm1 : 1 ≤ m) (hm2 : m ≤ 12) (h1 : 0 < d) (h2 : d ≤ ml y m) (hy1 : -100000 < y) (hy2 : y < 100000) : Says w [] 64 [.int y t1, .int m t2, .int d t3] 3 24 (RetFP fun x => x = 2 * gjd y m d - 1 ∧ -200000000 < x ∧ x < 200000000) := by
  unfold Says
  k_fill
  intro pg loose mean mg mb news dp un gd cn cs a ccd cl outer A₀ base h₀ L mm s Q E B F X N T hk hn9 hd9 hu9 hret
  have hd31 : d ≤ 31 := by unfold ml lp at h2; repeat' split at h2 <;> omega
  unfold gjd yo cum at hret
  cases hb : leapB y
  · rw [lp_f hb] at hret
    refine wpAny_call ?_
    k_dflt (refine' code_def (binds := [(Str.ofString "year", .int y t1), (Str.ofString "month", .int m t2), (Str.ofString "day", .int d t3)]) ?k1 ?k2 ?k3 ?k4 ?k5 ?kA ?kF ?kK ?k6 ?k7 ?k8 ?k9 ?kB ?_ ?c2 ?c3 ?c4 ?c5; (case kA => exact rfl); (case kF => exact rfl); (case kK => assumption); (case k1 => k_asm); (case k2 => k_asm); (case k3 => k_asm); (case k4 => k_asm); (case k5 => k_asm); (case k6 => k_is); (case k7 => k_is); (case k8 => ktr_room); (case k9 => exact BindsTo.of_eq rfl); (case c5 => decide); (case kB => exact locs rfl); (case c2 => exact rfl); (case c3 => exact rfl); (case c4 => exact rfl); k_whole; intro g' L' h' FG' F' N' B' X' T'; (try dsimp only [List.reverse_cons, List.reverse_nil, List.nil_append, List.cons_append, List.append_nil]); (try k_lift B'); (try k_fold))
    k_steps
    all_goals first | (refine endFP hret (by k_asm) (by k_asm) ?_; repeat' split <;> omega) | trace_state
  · rw [lp_t hb] at hret
    refine wpAny_call ?_
    k_dflt (refine' code_def (binds := [(Str.ofString "year", .int y t1), (Str.ofString "month", .int m t2), (Str.ofString "day", .int d t3)]) ?k1 ?k2 ?k3 ?k4 ?k5 ?kA ?kF ?kK ?k6 ?k7 ?k8 ?k9 ?kB ?_ ?c2 ?c3 ?c4 ?c5; (case kA => exact rfl); (case kF => exact rfl); (case kK => assumption); (case k1 => k_asm); (case k2 => k_asm); (case k3 => k_asm); (case k4 => k_asm); (case k5 => k_asm); (case k6 => k_is); (case k7 => k_is); (case k8 => ktr_room); (case k9 => exact BindsTo.of_eq rfl); (case c5 => decide); (case kB => exact locs rfl); (case c2 => exact rfl); (case c3 => exact rfl); (case c4 => exact rfl); k_whole; intro g' L' h' FG' F' N' B' X' T'; (try dsimp only [List.reverse_cons, List.reverse_nil, List.nil_append, List.cons_append, List.append_nil]); (try k_lift B'); (try k_fold))
    k_steps
    all_goals first | (refine endFP hret (by k_asm) (by k_asm) ?_; repeat' split <;> omega) | trace_state

theorem gjd_one (y : Int) : gjd y 1 1 = yo y := by unfold gjd cum; simp only [Int.reduceLE, if_true]; omega
theorem c_to_jd1 (w : World) (y : Int) (t1 t2 t3 : Tok) (hy1 : -100000 < y) (hy2 : y < 100000) : Says w [] 64 [.int y t1, .int 1 t2, .int 1 t3] 3 24 (RetFP fun x => x = 2 * yo y - 1 ∧ -200000000 < x ∧ x < 200000000) := by
  intro pg loose mean mg mb news dp un gd cn cs a ccd cl outer A₀ base h₀ L mm s Q E B F X N T hk hn9 hd9 hu9 hret
  refine c_to_jd w y 1 1 t1 t2 t3 (by decide) (by decide) (by decide) (one_le_ml _ _) hy1 hy2 _ _ _ _ _ _ _ _ _ _ _ _ _ _ _ _ _ _ _ _ _ _ _ B F X N T hk hn9 hd9 hu9 ?_
  intro v t h tk hP F' N'
  refine hret v t h tk ?_ F' N'
  rw [gjd_one] at hP
  exact hP
end Mine

end

section
set_option maxRecDepth 100000
namespace Mine
theorem lp_le (y : Int) : 0 ≤ lp y ∧ lp y ≤ 1 := by unfold lp; split <;> omega
theorem lp_cases (y : Int) : (lp y = 1 ∧ y % 4 = 0 ∧ (y % 100 ≠ 0 ∨ y % 400 = 0)) ∨ (lp y = 0 ∧ (y % 4 ≠ 0 ∨ (y % 100 = 0 ∧ y % 400 ≠ 0))) := by
  unfold lp leapB
  by_cases h : y % 4 = 0 ∧ (y % 100 ≠ 0 ∨ y % 400 = 0)
  · rw [decide_eq_true h]; left; exact ⟨rfl, h⟩
  · rw [decide_eq_false h]; right; exact ⟨rfl, by omega⟩

/-- the day D lies in the year Y -/
def InYear (D Y : Int) : Prop := yo Y ≤ D ∧ D ≤ yo Y + 364 + lp Y

theorem year_ok {D qc c q yi r1 r2 r3 : Int} (h1 : D - 1721426 = 146097 * qc + r1) (a1 : 0 ≤ r1) (b1 : r1 < 146097) (h2 : r1 = 36524 * c + r2) (a2 : 0 ≤ r2) (b2 : r2 < 36524)
    (h3 : r2 = 1461 * q + r3) (a3 : 0 ≤ r3) (b3 : r3 < 1461) (a4 : 365 * yi ≤ r3) (b4 : r3 < 365 * yi + 365) :
    ((c = 4 ∨ yi = 4) → InYear D (qc * 400 + c * 100 + q * 4 + yi)) ∧ (c ≠ 4 → yi ≠ 4 → InYear D (qc * 400 + c * 100 + q * 4 + yi + 1)) := by
  have hc : 0 ≤ c ∧ c ≤ 4 := by omega
  have hq : 0 ≤ q ∧ q ≤ 24 := by omega
  have hy : 0 ≤ yi ∧ yi ≤ 4 := by omega
  constructor
  · intro h
    unfold InYear
    rcases Int.lt_or_le c 4 with h4 | h4
    · have hyi : yi = 4 := by omega
      subst hyi
      have hr3 : r3 = 1460 := by omega
      have hq24 : q = 24 → c = 3 := by omega
      generalize hz : qc * 400 + c * 100 + q * 4 + 4 = y
      have e1 : (y - 1) / 4 = 100 * qc + 25 * c + q := by omega
      have e2 : (y - 1) / 100 = 4 * qc + c := by omega
      have e3 : (y - 1) / 400 = qc := by omega
      have e4 : y % 4 = 0 := by omega
      have e5 : y % 100 ≠ 0 ∨ y % 400 = 0 := by
        rcases (by omega : q = 24 ∨ q ≤ 23) with h | h
        · have := hq24 h
          right; omega
        · left; omega
      have e6 : lp y = 1 := by rcases lp_cases y with ⟨e, _⟩ | ⟨_, h⟩ <;> omega
      unfold yo
      rw [e1, e2, e3, e6]
      omega
    · have hc4 : c = 4 := by omega
      subst hc4
      have hr2 : r2 = 0 := by omega
      have hq0 : q = 0 := by omega
      have hy0 : yi = 0 := by omega
      subst hq0 hy0
      generalize hz : qc * 400 + 4 * 100 + 0 * 4 + 0 = y
      have e1 : (y - 1) / 4 = 100 * qc + 99 := by omega
      have e2 : (y - 1) / 100 = 4 * qc + 3 := by omega
      have e3 : (y - 1) / 400 = qc := by omega
      have e6 : lp y = 1 := by rcases lp_cases y with ⟨e, _⟩ | ⟨_, h⟩ <;> omega
      unfold yo
      rw [e1, e2, e3, e6]
      omega
  · intro hc4 hy4
    unfold InYear
    generalize hz : qc * 400 + c * 100 + q * 4 + yi + 1 = y
    have e1 : (y - 1) / 4 = 100 * qc + 25 * c + q := by omega
    have e2 : (y - 1) / 100 = 4 * qc + c := by omega
    have e3 : (y - 1) / 400 = qc := by omega
    have e6 := lp_le y
    unfold yo
    rw [e1, e2, e3]
    omega


theorem year_A {D K : Int} (hK : K = D - 1721426) (h : K % 146097 / 36524 = 4 ∨ K % 146097 % 36524 % 1461 / 365 = 4) :
    InYear D (K / 146097 * 400 + K % 146097 / 36524 * 100 + K % 146097 % 36524 / 1461 * 4 + K % 146097 % 36524 % 1461 / 365) :=
  (year_ok (r1 := K % 146097) (r2 := K % 146097 % 36524) (r3 := K % 146097 % 36524 % 1461) (by omega) (by omega) (by omega) (by omega) (by omega) (by omega) (by omega) (by omega) (by omega) (by omega) (by omega)).1 h
theorem year_B {D K : Int} (hK : K = D - 1721426) (h : K % 146097 / 36524 ≠ 4) (h' : K % 146097 % 36524 % 1461 / 365 ≠ 4) :
    InYear D (K / 146097 * 400 + K % 146097 / 36524 * 100 + K % 146097 % 36524 / 1461 * 4 + K % 146097 % 36524 % 1461 / 365 + 1) :=
  (year_ok (r1 := K % 146097) (r2 := K % 146097 % 36524) (r3 := K % 146097 % 36524 % 1461) (by omega) (by omega) (by omega) (by omega) (by omega) (by omega) (by omega) (by omega) (by omega) (by omega) (by omega)).2 h h'
theorem InYear.near {D Y : Int} (h : InYear D Y) (h1 : -20000000 < D) (h2 : D < 20000001) : -100000 < Y ∧ Y < 100000 := by
  unfold InYear yo at h
  have := lp_le Y
  omega

def IsDate (j y m d : Int) : Prop := 1 ≤ m ∧ m ≤ 12 ∧ 1 ≤ d ∧ d ≤ ml y m ∧ gjd y m d = j

theorem month_ok {D Y b adj m d : Int} (hb : lp Y = b) (hb' : b = 0 ∨ b = 1) (h1 : yo Y ≤ D) (h2 : D ≤ yo Y + 364 + b) (ha : (D - yo Y < 58 + b ∧ adj = 0) ∨ (58 + b ≤ D - yo Y ∧ adj = 2 - b))
    (m1 : 367 * m ≤ 12 * (D - yo Y + adj) + 373) (m2 : 12 * (D - yo Y + adj) + 373 < 367 * m + 367) (hd : d = D - gjd Y m 1 + 1) : IsDate D Y m d := by
  have hm1 : 1 ≤ m := by omega
  have hm2 : m ≤ 12 := by omega
  refine ⟨hm1, hm2, ?_⟩
  unfold gjd cum ml at *
  rw [hb] at *
  generalize yo Y = o at *
  rcases (by omega : m = 1 ∨ m = 2 ∨ m = 3 ∨ m = 4 ∨ m = 5 ∨ m = 6 ∨ m = 7 ∨ m = 8 ∨ m = 9 ∨ m = 10 ∨ m = 11 ∨ m = 12) with h | h | h | h | h | h | h | h | h | h | h | h <;> subst h <;> simp only [Int.reduceLE, Int.reduceEq, if_true, if_false, or_true, true_or, or_false, false_or, or_self] at * <;> omega

end Mine

end

section
open PySem PySem.W PyProof.Rows PySem.Spec PySem.Calls
set_option Elab.async false
set_option maxRecDepth 100000
namespace Mine
local macro_rules | `(tactic| walk_at "eval Constant float") => `(tactic| (k_dflt (refine Flo.k_const Flo.half_lit ?_)))
local macro_rules | `(tactic| walk_at "binaryOp Sub float float") => `(tactic| (k_dflt ((fail_if_success (with_reducible show wpAny _ _ (binaryOp _ _ (Value.float (Flo.hf _) _)) _ _ _)); (fail_if_success (with_reducible show wpAny _ _ (binaryOp _ _ (Value.float Flo.TROP _)) _ _ _)); refine Flo.k_subL Flo.epg_lit ?_)))
local macro_rules | `(tactic| walk_at "binaryOp Sub float float") => `(tactic| (k_dflt ((fail_if_success (with_reducible show wpAny _ _ (binaryOp _ _ (Value.float (Flo.hf _) _)) _ _ _)); (fail_if_success (with_reducible show wpAny _ _ (binaryOp _ _ (Value.float Flo.TROP _)) _ _ _)); refine Flo.k_subL Flo.epp_lit ?_)))
local macro_rules | `(tactic| walk_at "binaryOp Sub int float") => `(tactic| (k_dflt ((fail_if_success (with_reducible show wpAny _ _ (binaryOp _ _ (Value.float (Flo.hf _) _)) _ _ _)); (fail_if_success (with_reducible show wpAny _ _ (binaryOp _ _ (Value.float Flo.TROP _)) _ _ _)); refine Flo.k_subL Flo.epp_lit ?_)))
local macro_rules | `(tactic| walk_at "binaryOp Sub float int") => `(tactic| (k_dflt ((fail_if_success (with_reducible show wpAny _ _ (binaryOp _ (Value.float (Flo.hf _) _) _) _ _ _)); (fail_if_success (with_reducible show wpAny _ _ (binaryOp _ (Value.float Flo.TROP _) _) _ _ _)); refine Flo.k_Lsub Flo.epg_lit ?_)))
local macro_rules | `(tactic| walk_at "binaryOp Sub float int") => `(tactic| (k_dflt ((fail_if_success (with_reducible show wpAny _ _ (binaryOp _ (Value.float (Flo.hf _) _) _) _ _ _)); (fail_if_success (with_reducible show wpAny _ _ (binaryOp _ (Value.float Flo.TROP _) _) _ _ _)); refine Flo.k_Lsub Flo.epp_lit ?_)))
local macro_rules | `(tactic| walk_at "binaryOp Mult float int") => `(tactic| (k_dflt ((fail_if_success (with_reducible show wpAny _ _ (binaryOp _ (Value.float (Flo.hf _) _) _) _ _ _)); (fail_if_success (with_reducible show wpAny _ _ (binaryOp _ (Value.float Flo.TROP _) _) _ _ _)); refine Flo.k_Lmul Flo.trop_lit ?_)))
local macro_rules | `(tactic| walk_at "binaryOp Div float float") => `(tactic| (k_dflt ((fail_if_success (with_reducible show wpAny _ _ (binaryOp _ _ (Value.float (Flo.hf _) _)) _ _ _)); (fail_if_success (with_reducible show wpAny _ _ (binaryOp _ _ (Value.float Flo.TROP _)) _ _ _)); refine Flo.k_divL Flo.trop_lit ?_)))
local macro_rules | `(tactic| walk_at "binaryOp Add int float") => `(tactic| (k_dflt ((fail_if_success (with_reducible show wpAny _ _ (binaryOp _ _ (Value.float (Flo.hf _) _)) _ _ _)); (fail_if_success (with_reducible show wpAny _ _ (binaryOp _ _ (Value.float Flo.TROP _)) _ _ _)); refine Flo.k_addL Flo.trop_lit ?_)))
local macro_rules | `(tactic| walk_at "binaryOp Add int bool") => `(tactic| (first | refine' Flo.k_addit ?_ | refine' Flo.k_addif0 ?_))
local macro_rules | `(tactic| walk_at "binaryOp Add float float") => `(tactic| ((with_reducible show wpAny _ _ (binaryOp _ (Value.float (Flo.hf _) _) (Value.float (Flo.hf _) _)) _ _ _); refine' Flo.k_addff ?_ ?a0 ?a1; (case a0 => k_dflt omega); (case a1 => k_dflt omega)))
local macro_rules | `(tactic| walk_at "binaryOp Sub float float") => `(tactic| ((with_reducible show wpAny _ _ (binaryOp _ (Value.float (Flo.hf _) _) (Value.float (Flo.hf _) _)) _ _ _); refine' Flo.k_subff ?_ ?a0 ?a1; (case a0 => k_dflt omega); (case a1 => k_dflt omega)))
local macro_rules | `(tactic| walk_at "binaryOp Add float int") => `(tactic| ((fail_if_success (with_reducible show wpAny _ _ (binaryOp _ (Value.float (Flo.hf _) _) _) _ _ _)); refine' Flo.k_addQi ?_ ?hq ?h1 ?h2 ?h3 ?h4; (case hq => with_reducible assumption); (case h1 => k_dflt decide); (case h2 => k_dflt decide); (case h3 => k_dflt omega); (case h4 => k_dflt omega); intro _ _))
local macro_rules | `(tactic| walk_at "binaryOp Add float int") => `(tactic| ((with_reducible show wpAny _ _ (binaryOp _ (Value.float (Flo.hf _) _) (Value.int _ _)) _ _ _); refine' Flo.k_addfi ?_ ?a ?b; (case a => k_dflt omega); (case b => k_dflt omega)))
local macro_rules | `(tactic| walk_at "binaryOp Add int float") => `(tactic| ((with_reducible show wpAny _ _ (binaryOp _ (Value.int _ _) (Value.float Flo.TROP _)) _ _ _); refine' Flo.k_addiX ?_ ?a0; (case a0 => k_dflt omega)))
local macro_rules | `(tactic| walk_at "binaryOp Add float int") => `(tactic| ((with_reducible show wpAny _ _ (binaryOp _ (Value.float (Float64.add _ _) _) (Value.int _ _)) _ _ _); refine' Flo.k_addXi ?_ ?a0; (case a0 => k_dflt omega)))
local macro_rules | `(tactic| walk_at "binaryOp Add int float") => `(tactic| ((with_reducible show wpAny _ _ (binaryOp _ (Value.int _ _) (Value.float (Flo.hf _) _)) _ _ _); refine' Flo.k_addif ?_ ?a0 ?a1; (case a0 => k_dflt omega); (case a1 => k_dflt omega)))
local macro_rules | `(tactic| walk_at "binaryOp Sub float int") => `(tactic| ((with_reducible show wpAny _ _ (binaryOp _ (Value.float (Flo.hf _) _) (Value.int _ _)) _ _ _); refine' Flo.k_subfi ?_ ?a0 ?a1; (case a0 => k_dflt omega); (case a1 => k_dflt omega)))
local macro_rules | `(tactic| walk_at "binaryOp Sub int float") => `(tactic| ((with_reducible show wpAny _ _ (binaryOp _ (Value.int _ _) (Value.float (Flo.hf _) _)) _ _ _); refine' Flo.k_subif ?_ ?a0 ?a1; (case a0 => k_dflt omega); (case a1 => k_dflt omega)))
local macro_rules | `(tactic| walk_at "binaryOp Mult float int") => `(tactic| ((with_reducible show wpAny _ _ (binaryOp _ (Value.float (Flo.hf _) _) (Value.int _ _)) _ _ _); refine' Flo.k_mulfi ?_ ?a0 ?a1 ?a2 ?a3; (case a0 => k_dflt omega); (case a1 => k_dflt omega); (case a2 => k_dflt decide); (case a3 => k_dflt decide)))
local macro_rules | `(tactic| walk_at "binaryOp Mult float int") => `(tactic| ((with_reducible show wpAny _ _ (binaryOp _ (Value.float Flo.TROP _) (Value.int _ _)) _ _ _); refine' Flo.k_mulT ?_ ?a0; (case a0 => k_dflt omega)))
local macro_rules | `(tactic| walk_at "binaryOp Mod float int") => `(tactic| ((with_reducible show wpAny _ _ (binaryOp _ (Value.float (Flo.hf _) _) (Value.int _ _)) _ _ _); refine' Flo.k_modfi ?_ ?a0 ?a1 ?a2 ?a3; (case a0 => k_dflt omega); (case a1 => k_dflt omega); (case a2 => k_dflt decide); (case a3 => k_dflt decide); intro _ _ _ _ _))
local macro_rules | `(tactic| walk_at "binaryOp Mod float int") => `(tactic| ((with_reducible show wpAny _ _ (binaryOp _ (Value.float (Flo.hf (2 * _)) _) (Value.int _ _)) _ _ _); refine' Flo.k_modfi2 ?_ ?a0 ?a1 ?a2; (case a0 => k_dflt omega); (case a1 => k_dflt decide); (case a2 => k_dflt decide)))
local macro_rules | `(tactic| walk_at "binaryOp Div float int") => `(tactic| ((with_reducible show wpAny _ _ (binaryOp _ (Value.float (Flo.hf _) _) (Value.int _ _)) _ _ _); refine' Flo.k_divfi ?_ ?a0 ?a1 ?a2 ?a3; (case a0 => k_dflt omega); (case a1 => k_dflt omega); (case a2 => k_dflt decide); (case a3 => k_dflt decide); intro _ _ _ _))
local macro_rules | `(tactic| walk_at "binaryOp Div float int") => `(tactic| ((with_reducible show wpAny _ _ (binaryOp _ (Value.float (Flo.hf (2 * _)) _) (Value.int _ _)) _ _ _); refine' Flo.k_divfi2 ?_ ?a0 ?a1 ?a2; (case a0 => k_dflt omega); (case a1 => k_dflt decide); (case a2 => k_dflt decide); intro _ _))
local macro_rules | `(tactic| walk_at "binaryOp Div float float") => `(tactic| ((with_reducible show wpAny _ _ (binaryOp _ (Value.float (Flo.hf _) _) (Value.float Flo.TROP _)) _ _ _); refine Flo.k_divT ?_))
local macro_rules | `(tactic| walk_at "binaryOp Div int int") => `(tactic| (refine' Flo.k_divii ?_ ?a0 ?a1 ?a2; (case a0 => k_dflt omega); (case a1 => k_dflt decide); (case a2 => k_dflt decide); intro _ _))
local macro_rules | `(tactic| walk_at "call builtin:math.floor") => `(tactic| ((with_reducible show wpAny _ _ (call _ [(Value.float (Flo.hf _) _)]) _ _ _); refine' Flo.k_floorH ?_ ?h1 ?h2; (case h1 => k_dflt omega); (case h2 => k_dflt exact rfl); intro _ _ _))
local macro_rules | `(tactic| walk_at "call builtin:math.floor") => `(tactic| ((fail_if_success (with_reducible show wpAny _ _ (call _ [(Value.float (Flo.hf _) _)]) _ _ _)); refine' Flo.k_floorQ ?hq ?_ ?h1 ?h2 ?h3; (case hq => with_reducible assumption); (case h1 => k_dflt decide); (case h2 => k_dflt decide); (case h3 => k_dflt exact rfl); intro _ _ _))
local macro_rules | `(tactic| walk_at "call builtin:math.floor") => `(tactic| ((fail_if_success (with_reducible show wpAny _ _ (call _ [(Value.float (Flo.hf _) _)]) _ _ _)); refine' Flo.k_floorFl ?hq ?_ ?h3; (case hq => with_reducible assumption); (case h3 => k_dflt exact rfl)))
local macro_rules | `(tactic| walk_at "call builtin:math.ceil") => `(tactic| ((fail_if_success (with_reducible show wpAny _ _ (call _ [(Value.float (Flo.hf _) _)]) _ _ _)); refine' Flo.k_ceilQ ?hq ?_ ?h1 ?h2 ?h3; (case hq => with_reducible assumption); (case h1 => k_dflt decide); (case h2 => k_dflt decide); (case h3 => k_dflt exact rfl); intro _ _ _))
local macro_rules | `(tactic| walk_at "call builtin:round") => `(tactic| ((fail_if_success (with_reducible show wpAny _ _ (call _ [(Value.float (Flo.hf _) _)]) _ _ _)); refine' Flo.k_round ?hq ?_ ?h3; (case hq => with_reducible assumption); (case h3 => k_dflt exact rfl)))
local macro_rules | `(tactic| walk_at "call type:int") => `(tactic| ((with_reducible show wpAny _ _ (call _ [(Value.float (Flo.hf _) _)]) _ _ _); refine' Flo.k_intH ?_ ?h1 ?h2; (case h1 => k_dflt omega); (case h2 => k_dflt omega); intro _ _))
local macro_rules | `(tactic| walk_at "compareOp Lt float int") => `(tactic| ((with_reducible show wpAny _ _ (compareOp _ (Value.float (Flo.hf _) _) (Value.int _ _)) _ _ _); refine' Flo.k_ltfi ?_ ?h1; (case h1 => k_dflt omega)))
local macro_rules | `(tactic| walk_at "compareOp LtE float int") => `(tactic| ((with_reducible show wpAny _ _ (compareOp _ (Value.float (Flo.hf _) _) (Value.int _ _)) _ _ _); refine' Flo.k_lefi ?_ ?h1; (case h1 => k_dflt omega)))
local macro_rules | `(tactic| walk_at "compareOp Gt float int") => `(tactic| ((with_reducible show wpAny _ _ (compareOp _ (Value.float (Flo.hf _) _) (Value.int _ _)) _ _ _); refine' Flo.k_gtfi ?_ ?h1; (case h1 => k_dflt omega)))
local macro_rules | `(tactic| walk_at "compareOp NotEq float float") => `(tactic| ((with_reducible show wpAny _ _ (compareOp _ (Value.float (Flo.hf _) _) (Value.float (Flo.hf _) _)) _ _ _); refine' Flo.k_neff ?_ ?h1 ?h2; (case h1 => k_dflt omega); (case h2 => k_dflt omega)))
local macro_rules | `(tactic| walk_at "compareOp Gt int float") => `(tactic| (refine' Flo.k_gtiF ?hq ?_; (case hq => with_reducible assumption)))
local macro_rules | `(tactic| walk_at "compareOp LtE int float") => `(tactic| (refine' Flo.k_leiF ?hq ?_; (case hq => with_reducible assumption)))
local macro_rules | `(tactic| walk_at "compareOp Lt float int") => `(tactic| ((fail_if_success (with_reducible show wpAny _ _ (compareOp _ (Value.float (Flo.hf _) _) _) _ _ _)); refine' Flo.k_ltFi ?hq ?_; (case hq => with_reducible assumption)))
local macro_rules | `(tactic| walk_at "eval Call") => `(tactic| (k_dflt (refine Call_ ?_)))
local macro_rules | `(tactic| walk_at "execs cons") => `(tactic| (k_here; (with_reducible refine gen_tk ?_); intro _; (with_reducible refine wpAny_execs_cons ?_); (try dsimp only)))
local macro_rules | `(tactic| walk_at "my need") => `(tactic| first | exact need_nil | assumption)

local macro_rules | `(tactic| walk_at "CutI") => `(tactic| (k_dflt (refine' cutI_end ?F ?N ?n ?m ?x ?P; (case F => k_asm); (case N => k_asm); (case n => first | exact fun _ h => h | assumption); (case m => first | exact fun _ _ => rfl | exact fun _ hy => if_neg hy); (case x => exact rfl); (case P => walk_at "my cutP"))))
local macro_rules | `(tactic| walk_at "my cutP") => `(tactic| first | ((with_reducible refine year_B ?a ?b ?c); (case a => k_dflt omega); (case b => assumption); (case c => assumption)) | ((with_reducible refine year_A ?a ?b); (case a => k_dflt omega); (case b => first | (left; assumption) | (right; assumption))))
local macro_rules | `(tactic| walk_at "binaryOp Sub float float") => `(tactic| ((with_reducible show wpAny _ _ (binaryOp _ (Value.float (Flo.hf (2 * _ + 1)) _) (Value.float (Flo.hf 3442851) _)) _ _ _); refine' Flo.k_subff_even ?_ ?a ?b ?c; (case a => k_dflt omega); (case b => k_dflt decide); (case c => k_dflt omega); intro _ _))
local macro_rules | `(tactic| walk_at "call builtin:math.floor") => `(tactic| (refine' Flo.k_floorQ2 ?hq ?_ ?h1 ?h2 ?h3; (case hq => with_reducible assumption); (case h1 => k_dflt decide); (case h2 => k_dflt decide); (case h3 => k_dflt exact rfl)))
local macro_rules | `(tactic| walk_at "exec If") => `(tactic| (k_here; k_dflt (refine' cutI ?cm ?kF ?kN ?h1 ?h2; (case cm => assumption); (case kF => k_asm); (case kN => k_asm); (case' h1 => ((rename CutMark _ _ => z9); clear z9)); (case' h2 => ((rename CutMark _ _ => z9); (clear z9); (intro Y9 t9 h9 tk9 hP9 F9 N9); (repeat ((rename Flo.Quot _ _ _ => z8); clear z8)); (have hQ9 := InYear.near hP9 (by omega) (by omega)); (obtain ⟨hi9, hj9⟩ := hP9); (obtain ⟨hy9, hz9⟩ := hQ9); (rcases hb9 : leapB Y9 <;> (first | (have hl9 := lp_f hb9) | (have hl9 := lp_t hb9)) <;> (rw [hl9] at hj9) <;> (dsimp only at F9 ⊢) <;> (try k_sweep)))))))
local macro_rules | `(tactic| walk_at "call ref") => `(tactic| (k_here; k_dflt (refine' Says.use (c_isleap _ _ _ _ ?s1) ?k1 ?k2 ?k3 ?k4 ?k5 ?k6 ?k7 ?k8 ?k9 ?_; (case k1 => k_asm); (case k2 => k_asm); (case k3 => k_asm); (case k4 => k_asm); (case k5 => k_asm); (case k6 => first | exact rfl | assumption); (case k7 => walk_at "my need"); (case s1 => first | assumption | omega | decide | exact one_le_ml _ _ | ((try dsimp only); omega)); (case k8 => ktr_room); (case k9 => ktr_units); k_whole; (intro h9 tk9 F9 N9); (all_goals (try dsimp only)); (all_goals (try k_fold)))))
local macro_rules | `(tactic| walk_at "call ref") => `(tactic| (k_here; k_dflt (refine' Says.use (c_to_jd _ _ _ _ _ _ _ ?s1 ?s2 ?s3 ?s4 ?s5 ?s6) ?k1 ?k2 ?k3 ?k4 ?k5 ?k6 ?k7 ?k8 ?k9 ?_; (case k1 => k_asm); (case k2 => k_asm); (case k3 => k_asm); (case k4 => k_asm); (case k5 => k_asm); (case k6 => first | exact rfl | assumption); (case k7 => walk_at "my need"); (case s1 => first | assumption | omega | decide | exact one_le_ml _ _ | ((try dsimp only); omega)); (case s2 => first | assumption | omega | decide | exact one_le_ml _ _ | ((try dsimp only); omega)); (case s3 => first | assumption | omega | decide | exact one_le_ml _ _ | ((try dsimp only); omega)); (case s4 => first | assumption | omega | decide | exact one_le_ml _ _ | ((try dsimp only); omega)); (case s5 => first | assumption | omega | decide | exact one_le_ml _ _ | ((try dsimp only); omega)); (case s6 => first | assumption | omega | decide | exact one_le_ml _ _ | ((try dsimp only); omega)); (case k8 => ktr_room); (case k9 => ktr_units); k_whole; (intro v9 t9 h9 tk9 P9 F9 N9; (try dsimp only at P9)); (all_goals (try dsimp only)); (all_goals (try k_fold)))))
local macro_rules | `(tactic| walk_at "call ref") => `(tactic| (k_here; k_dflt (refine' Says.use (c_to_jd1 _ _ _ _ _ ?s1 ?s2) ?k1 ?k2 ?k3 ?k4 ?k5 ?k6 ?k7 ?k8 ?k9 ?_; (case k1 => k_asm); (case k2 => k_asm); (case k3 => k_asm); (case k4 => k_asm); (case k5 => k_asm); (case k6 => first | exact rfl | assumption); (case k7 => walk_at "my need"); (case s1 => first | assumption | omega | decide | exact one_le_ml _ _ | ((try dsimp only); omega)); (case s2 => first | assumption | omega | decide | exact one_le_ml _ _ | ((try dsimp only); omega)); (case k8 => ktr_room); (case k9 => ktr_units); k_whole; (intro v9 t9 h9 tk9 P9 F9 N9; (try dsimp only at P9)); (all_goals (try dsimp only)); (all_goals (try k_fold)))))

set_option maxHeartbeats 8000000 in
theorem c_from_jd (w : World) (x : UInt64) (k : Int) (t : Tok) (hx : Flo.FlIs (Float64.sub x (Flo.hf 1)) k) (hk1 : -20000000 < k) (hk2 : k < 20000000) : Says w [] 71 [.float x t] 6 48 (RetT3 (IsDate (k + 1))) := by
  unfold Says
  k_fill
  intro pg loose mean mg mb news dp un gd cn cs a ccd cl outer A₀ base h₀ L m s Q E B F X N T hk hn9 hd9 hu9 hret
  have cm : CutMark (Str.ofString "year") (fun Y => InYear (k + 1) Y) := trivial
  refine wpAny_call ?_
  k_dflt (refine' code_def (binds := [(Str.ofString "jd", .float x t)]) ?k1 ?k2 ?k3 ?k4 ?k5 ?kA ?kF ?kK ?k6 ?k7 ?k8 ?k9 ?kB ?_ ?c2 ?c3 ?c4 ?c5; (case kA => exact rfl); (case kF => exact rfl); (case kK => assumption); (case k1 => k_asm); (case k2 => k_asm); (case k3 => k_asm); (case k4 => k_asm); (case k5 => k_asm); (case k6 => k_is); (case k7 => k_is); (case k8 => ktr_room); (case k9 => exact BindsTo.of_eq rfl); (case c5 => decide); (case kB => exact locs rfl); (case c2 => exact rfl); (case c3 => exact rfl); (case c4 => exact rfl); k_whole; intro g' L' h' FG' F' N' B' X' T'; (try dsimp only [List.reverse_cons, List.reverse_nil, List.nil_append, List.cons_append, List.append_nil]); (try k_lift B'); (try k_fold))
  k_steps
  all_goals (refine endT3 hret (by k_asm) (by k_asm) (by assumption) ?_)
  all_goals clear hret
  all_goals (first
    | (refine month_ok (b := 0) (adj := 0) (by assumption) (by decide) ?_ ?_ ?_ ?_ ?_ ?_ <;> omega)
    | (refine month_ok (b := 0) (adj := 2) (by assumption) (by decide) ?_ ?_ ?_ ?_ ?_ ?_ <;> omega)
    | (refine month_ok (b := 1) (adj := 0) (by assumption) (by decide) ?_ ?_ ?_ ?_ ?_ ?_ <;> omega)
    | (refine month_ok (b := 1) (adj := 1) (by assumption) (by decide) ?_ ?_ ?_ ?_ ?_ ?_ <;> omega))
end Mine

end

section
set_option maxRecDepth 100000
namespace Mine
theorem yo_mono {a b : Int} (h : a ≤ b) : yo a ≤ yo b := by unfold yo; omega
theorem yo_succ (y : Int) : yo (y + 1) = yo y + 365 + lp y := by
  rcases lp_cases y with ⟨e, h⟩ | ⟨e, h⟩ <;> rw [e] <;> unfold yo <;> omega
theorem year_two {D y a : Int} (h : InYear D y) (h1 : yo a ≤ D) (h2 : D < yo (a + 2)) : y = a ∨ y = a + 1 := by
  obtain ⟨b1, b2⟩ := h
  have s := yo_succ y
  rcases (by omega : y ≤ a - 1 ∨ y = a ∨ y = a + 1 ∨ a + 2 ≤ y) with h | h | h | h
  · have := yo_mono (by omega : y + 1 ≤ a); omega
  · exact .inl h
  · exact .inr h
  · have := yo_mono h; omega
theorem inYear_unique {D y z : Int} (h : InYear D y) (h' : InYear D z) : y = z := by
  obtain ⟨b1, b2⟩ := h
  obtain ⟨c1, c2⟩ := h'
  have s := yo_succ y
  have s' := yo_succ z
  rcases Int.lt_trichotomy y z with h | h | h
  · have := yo_mono (by omega : y + 1 ≤ z); omega
  · exact h
  · have := yo_mono (by omega : z + 1 ≤ y); omega
theorem IsDate.inYear {D y m d : Int} (h : IsDate D y m d) : InYear D y := by
  obtain ⟨h1, h2, h3, h4, h5⟩ := h
  unfold gjd cum at h5
  unfold ml at h4
  unfold InYear
  have hl := lp_le y
  generalize lp y = l at *
  generalize yo y = o at *
  rcases (by omega : m = 1 ∨ m = 2 ∨ m = 3 ∨ m = 4 ∨ m = 5 ∨ m = 6 ∨ m = 7 ∨ m = 8 ∨ m = 9 ∨ m = 10 ∨ m = 11 ∨ m = 12) with h | h | h | h | h | h | h | h | h | h | h | h <;> subst h <;> simp only [Int.reduceLE, Int.reduceEq, if_true, if_false, or_true, true_or, or_false, false_or, or_self] at * <;> omega
theorem isDate_unique {D y m d y' m' d' : Int} (h : IsDate D y m d) (h' : IsDate D y' m' d') : y = y' ∧ m = m' ∧ d = d' := by
  have e := inYear_unique h.inYear h'.inYear
  subst e
  refine ⟨rfl, ?_⟩
  obtain ⟨h1, h2, h3, h4, h5⟩ := h
  obtain ⟨k1, k2, k3, k4, k5⟩ := h'
  unfold gjd cum at h5 k5
  unfold ml at h4 k4
  have hl := lp_le y
  generalize lp y = l at *
  generalize yo y = o at *
  have hm : m = m' := by
    rcases (by omega : m = 1 ∨ m = 2 ∨ m = 3 ∨ m = 4 ∨ m = 5 ∨ m = 6 ∨ m = 7 ∨ m = 8 ∨ m = 9 ∨ m = 10 ∨ m = 11 ∨ m = 12) with h | h | h | h | h | h | h | h | h | h | h | h <;> subst h <;>
    rcases (by omega : m' = 1 ∨ m' = 2 ∨ m' = 3 ∨ m' = 4 ∨ m' = 5 ∨ m' = 6 ∨ m' = 7 ∨ m' = 8 ∨ m' = 9 ∨ m' = 10 ∨ m' = 11 ∨ m' = 12) with h | h | h | h | h | h | h | h | h | h | h | h <;> subst h <;>
    simp only [Int.reduceLE, Int.reduceEq, if_true, if_false, or_true, true_or, or_false, false_or, or_self] at * <;> omega
  subst hm
  exact ⟨rfl, by omega⟩

/-- the years as they open: 365 or 366 days each, within some weeks of the rule of 33 years -/
structure Opens (E : Int → Int) : Prop where
  lo : ∀ c, E c + 365 ≤ E (c + 1)
  hi : ∀ c, E (c + 1) ≤ E c + 366
  near1 : ∀ c, -759 ≤ 33 * (E c - 1948320 - 365 * (c - 622)) - 8 * (c - 622)
  near2 : ∀ c, 33 * (E c - 1948320 - 365 * (c - 622)) - 8 * (c - 622) ≤ 759

theorem Opens.year {E : Int → Int} (H : Opens E) {c : Int} (h1 : -41000 < c) (h2 : c < 42000) : yo c + 30 ≤ E c ∧ E c ≤ yo c + 130 := by
  have a := H.near1 c
  have b := H.near2 c
  generalize E c = e at *
  unfold yo
  omega
end Mine

end

section
open PySem PySem.W PyProof.Rows PySem.Spec PySem.Calls
set_option Elab.async false
set_option maxRecDepth 100000
namespace Mine
local macro_rules | `(tactic| walk_at "my pad") => `(tactic| skip)
local macro_rules | `(tactic| walk_at "eval Constant float") => `(tactic| (k_dflt (refine Flo.k_const Flo.half_lit ?_)))
local macro_rules | `(tactic| walk_at "binaryOp Sub float float") => `(tactic| (k_dflt ((fail_if_success (with_reducible show wpAny _ _ (binaryOp _ _ (Value.float (Flo.hf _) _)) _ _ _)); (fail_if_success (with_reducible show wpAny _ _ (binaryOp _ _ (Value.float Flo.TROP _)) _ _ _)); refine Flo.k_subL Flo.epg_lit ?_)))
local macro_rules | `(tactic| walk_at "binaryOp Sub float float") => `(tactic| (k_dflt ((fail_if_success (with_reducible show wpAny _ _ (binaryOp _ _ (Value.float (Flo.hf _) _)) _ _ _)); (fail_if_success (with_reducible show wpAny _ _ (binaryOp _ _ (Value.float Flo.TROP _)) _ _ _)); refine Flo.k_subL Flo.epp_lit ?_)))
local macro_rules | `(tactic| walk_at "binaryOp Sub int float") => `(tactic| (k_dflt ((fail_if_success (with_reducible show wpAny _ _ (binaryOp _ _ (Value.float (Flo.hf _) _)) _ _ _)); (fail_if_success (with_reducible show wpAny _ _ (binaryOp _ _ (Value.float Flo.TROP _)) _ _ _)); refine Flo.k_subL Flo.epp_lit ?_)))
local macro_rules | `(tactic| walk_at "binaryOp Sub float int") => `(tactic| (k_dflt ((fail_if_success (with_reducible show wpAny _ _ (binaryOp _ (Value.float (Flo.hf _) _) _) _ _ _)); (fail_if_success (with_reducible show wpAny _ _ (binaryOp _ (Value.float Flo.TROP _) _) _ _ _)); refine Flo.k_Lsub Flo.epg_lit ?_)))
local macro_rules | `(tactic| walk_at "binaryOp Sub float int") => `(tactic| (k_dflt ((fail_if_success (with_reducible show wpAny _ _ (binaryOp _ (Value.float (Flo.hf _) _) _) _ _ _)); (fail_if_success (with_reducible show wpAny _ _ (binaryOp _ (Value.float Flo.TROP _) _) _ _ _)); refine Flo.k_Lsub Flo.epp_lit ?_)))
local macro_rules | `(tactic| walk_at "binaryOp Mult float int") => `(tactic| (k_dflt ((fail_if_success (with_reducible show wpAny _ _ (binaryOp _ (Value.float (Flo.hf _) _) _) _ _ _)); (fail_if_success (with_reducible show wpAny _ _ (binaryOp _ (Value.float Flo.TROP _) _) _ _ _)); refine Flo.k_Lmul Flo.trop_lit ?_)))
local macro_rules | `(tactic| walk_at "binaryOp Div float float") => `(tactic| (k_dflt ((fail_if_success (with_reducible show wpAny _ _ (binaryOp _ _ (Value.float (Flo.hf _) _)) _ _ _)); (fail_if_success (with_reducible show wpAny _ _ (binaryOp _ _ (Value.float Flo.TROP _)) _ _ _)); refine Flo.k_divL Flo.trop_lit ?_)))
local macro_rules | `(tactic| walk_at "binaryOp Add int float") => `(tactic| (k_dflt ((fail_if_success (with_reducible show wpAny _ _ (binaryOp _ _ (Value.float (Flo.hf _) _)) _ _ _)); (fail_if_success (with_reducible show wpAny _ _ (binaryOp _ _ (Value.float Flo.TROP _)) _ _ _)); refine Flo.k_addL Flo.trop_lit ?_)))
local macro_rules | `(tactic| walk_at "binaryOp Add int bool") => `(tactic| (first | refine' Flo.k_addit ?_ | refine' Flo.k_addif0 ?_))
local macro_rules | `(tactic| walk_at "binaryOp Add float float") => `(tactic| ((with_reducible show wpAny _ _ (binaryOp _ (Value.float (Flo.hf _) _) (Value.float (Flo.hf _) _)) _ _ _); refine' Flo.k_addff ?_ ?a0 ?a1; (case a0 => k_dflt omega); (case a1 => k_dflt omega)))
local macro_rules | `(tactic| walk_at "binaryOp Sub float float") => `(tactic| ((with_reducible show wpAny _ _ (binaryOp _ (Value.float (Flo.hf _) _) (Value.float (Flo.hf _) _)) _ _ _); refine' Flo.k_subff ?_ ?a0 ?a1; (case a0 => k_dflt omega); (case a1 => k_dflt omega)))
local macro_rules | `(tactic| walk_at "binaryOp Add float int") => `(tactic| ((fail_if_success (with_reducible show wpAny _ _ (binaryOp _ (Value.float (Flo.hf _) _) _) _ _ _)); refine' Flo.k_addQi ?_ ?hq ?h1 ?h2 ?h3 ?h4; (case hq => with_reducible assumption); (case h1 => k_dflt decide); (case h2 => k_dflt decide); (case h3 => k_dflt omega); (case h4 => k_dflt omega); intro _ _))
local macro_rules | `(tactic| walk_at "binaryOp Add float int") => `(tactic| ((with_reducible show wpAny _ _ (binaryOp _ (Value.float (Flo.hf _) _) (Value.int _ _)) _ _ _); refine' Flo.k_addfi ?_ ?a ?b; (case a => k_dflt omega); (case b => k_dflt omega)))
local macro_rules | `(tactic| walk_at "binaryOp Add int float") => `(tactic| ((with_reducible show wpAny _ _ (binaryOp _ (Value.int _ _) (Value.float Flo.TROP _)) _ _ _); refine' Flo.k_addiX ?_ ?a0; (case a0 => k_dflt omega)))
local macro_rules | `(tactic| walk_at "binaryOp Add float int") => `(tactic| ((with_reducible show wpAny _ _ (binaryOp _ (Value.float (Float64.add _ _) _) (Value.int _ _)) _ _ _); refine' Flo.k_addXi ?_ ?a0; (case a0 => k_dflt omega)))
local macro_rules | `(tactic| walk_at "binaryOp Add int float") => `(tactic| ((with_reducible show wpAny _ _ (binaryOp _ (Value.int _ _) (Value.float (Flo.hf _) _)) _ _ _); refine' Flo.k_addif ?_ ?a0 ?a1; (case a0 => k_dflt omega); (case a1 => k_dflt omega)))
local macro_rules | `(tactic| walk_at "binaryOp Sub float int") => `(tactic| ((with_reducible show wpAny _ _ (binaryOp _ (Value.float (Flo.hf _) _) (Value.int _ _)) _ _ _); refine' Flo.k_subfi ?_ ?a0 ?a1; (case a0 => k_dflt omega); (case a1 => k_dflt omega)))
local macro_rules | `(tactic| walk_at "binaryOp Sub int float") => `(tactic| ((with_reducible show wpAny _ _ (binaryOp _ (Value.int _ _) (Value.float (Flo.hf _) _)) _ _ _); refine' Flo.k_subif ?_ ?a0 ?a1; (case a0 => k_dflt omega); (case a1 => k_dflt omega)))
local macro_rules | `(tactic| walk_at "binaryOp Mult float int") => `(tactic| ((with_reducible show wpAny _ _ (binaryOp _ (Value.float (Flo.hf _) _) (Value.int _ _)) _ _ _); refine' Flo.k_mulfi ?_ ?a0 ?a1 ?a2 ?a3; (case a0 => k_dflt omega); (case a1 => k_dflt omega); (case a2 => k_dflt decide); (case a3 => k_dflt decide)))
local macro_rules | `(tactic| walk_at "binaryOp Mult float int") => `(tactic| ((with_reducible show wpAny _ _ (binaryOp _ (Value.float Flo.TROP _) (Value.int _ _)) _ _ _); refine' Flo.k_mulT ?_ ?a0; (case a0 => k_dflt omega)))
local macro_rules | `(tactic| walk_at "binaryOp Mod float int") => `(tactic| ((with_reducible show wpAny _ _ (binaryOp _ (Value.float (Flo.hf _) _) (Value.int _ _)) _ _ _); refine' Flo.k_modfi ?_ ?a0 ?a1 ?a2 ?a3; (case a0 => k_dflt omega); (case a1 => k_dflt omega); (case a2 => k_dflt decide); (case a3 => k_dflt decide); intro _ _ _ _ _))
local macro_rules | `(tactic| walk_at "binaryOp Mod float int") => `(tactic| ((with_reducible show wpAny _ _ (binaryOp _ (Value.float (Flo.hf (2 * _)) _) (Value.int _ _)) _ _ _); refine' Flo.k_modfi2 ?_ ?a0 ?a1 ?a2; (case a0 => k_dflt omega); (case a1 => k_dflt decide); (case a2 => k_dflt decide)))
local macro_rules | `(tactic| walk_at "binaryOp Div float int") => `(tactic| ((with_reducible show wpAny _ _ (binaryOp _ (Value.float (Flo.hf _) _) (Value.int _ _)) _ _ _); refine' Flo.k_divfi ?_ ?a0 ?a1 ?a2 ?a3; (case a0 => k_dflt omega); (case a1 => k_dflt omega); (case a2 => k_dflt decide); (case a3 => k_dflt decide); intro _ _ _ _))
local macro_rules | `(tactic| walk_at "binaryOp Div float int") => `(tactic| ((with_reducible show wpAny _ _ (binaryOp _ (Value.float (Flo.hf (2 * _)) _) (Value.int _ _)) _ _ _); refine' Flo.k_divfi2 ?_ ?a0 ?a1 ?a2; (case a0 => k_dflt omega); (case a1 => k_dflt decide); (case a2 => k_dflt decide); intro _ _))
local macro_rules | `(tactic| walk_at "binaryOp Div float float") => `(tactic| ((with_reducible show wpAny _ _ (binaryOp _ (Value.float (Flo.hf _) _) (Value.float Flo.TROP _)) _ _ _); refine Flo.k_divT ?_))
local macro_rules | `(tactic| walk_at "binaryOp Div int int") => `(tactic| (refine' Flo.k_divii ?_ ?a0 ?a1 ?a2; (case a0 => k_dflt omega); (case a1 => k_dflt decide); (case a2 => k_dflt decide); intro _ _))
local macro_rules | `(tactic| walk_at "call builtin:math.floor") => `(tactic| ((with_reducible show wpAny _ _ (call _ [(Value.float (Flo.hf _) _)]) _ _ _); refine' Flo.k_floorH ?_ ?h1 ?h2; (case h1 => k_dflt omega); (case h2 => k_dflt exact rfl); intro _ _ _))
local macro_rules | `(tactic| walk_at "call builtin:math.floor") => `(tactic| ((fail_if_success (with_reducible show wpAny _ _ (call _ [(Value.float (Flo.hf _) _)]) _ _ _)); refine' Flo.k_floorQ ?hq ?_ ?h1 ?h2 ?h3; (case hq => with_reducible assumption); (case h1 => k_dflt decide); (case h2 => k_dflt decide); (case h3 => k_dflt exact rfl); intro _ _ _))
local macro_rules | `(tactic| walk_at "call builtin:math.floor") => `(tactic| ((fail_if_success (with_reducible show wpAny _ _ (call _ [(Value.float (Flo.hf _) _)]) _ _ _)); refine' Flo.k_floorFl ?hq ?_ ?h3; (case hq => with_reducible assumption); (case h3 => k_dflt exact rfl)))
local macro_rules | `(tactic| walk_at "call builtin:math.ceil") => `(tactic| ((fail_if_success (with_reducible show wpAny _ _ (call _ [(Value.float (Flo.hf _) _)]) _ _ _)); refine' Flo.k_ceilQ ?hq ?_ ?h1 ?h2 ?h3; (case hq => with_reducible assumption); (case h1 => k_dflt decide); (case h2 => k_dflt decide); (case h3 => k_dflt exact rfl); intro _ _ _))
local macro_rules | `(tactic| walk_at "call builtin:round") => `(tactic| ((fail_if_success (with_reducible show wpAny _ _ (call _ [(Value.float (Flo.hf _) _)]) _ _ _)); refine' Flo.k_round ?hq ?_ ?h3; (case hq => with_reducible assumption); (case h3 => k_dflt exact rfl)))
local macro_rules | `(tactic| walk_at "call type:int") => `(tactic| ((with_reducible show wpAny _ _ (call _ [(Value.float (Flo.hf _) _)]) _ _ _); refine' Flo.k_intH ?_ ?h1 ?h2; (case h1 => k_dflt omega); (case h2 => k_dflt omega); intro _ _))
local macro_rules | `(tactic| walk_at "compareOp Lt float int") => `(tactic| ((with_reducible show wpAny _ _ (compareOp _ (Value.float (Flo.hf _) _) (Value.int _ _)) _ _ _); refine' Flo.k_ltfi ?_ ?h1; (case h1 => k_dflt omega)))
local macro_rules | `(tactic| walk_at "compareOp LtE float int") => `(tactic| ((with_reducible show wpAny _ _ (compareOp _ (Value.float (Flo.hf _) _) (Value.int _ _)) _ _ _); refine' Flo.k_lefi ?_ ?h1; (case h1 => k_dflt omega)))
local macro_rules | `(tactic| walk_at "compareOp Gt float int") => `(tactic| ((with_reducible show wpAny _ _ (compareOp _ (Value.float (Flo.hf _) _) (Value.int _ _)) _ _ _); refine' Flo.k_gtfi ?_ ?h1; (case h1 => k_dflt omega)))
local macro_rules | `(tactic| walk_at "compareOp NotEq float float") => `(tactic| ((with_reducible show wpAny _ _ (compareOp _ (Value.float (Flo.hf _) _) (Value.float (Flo.hf _) _)) _ _ _); refine' Flo.k_neff ?_ ?h1 ?h2; (case h1 => k_dflt omega); (case h2 => k_dflt omega)))
local macro_rules | `(tactic| walk_at "compareOp Gt int float") => `(tactic| (refine' Flo.k_gtiF ?hq ?_; (case hq => with_reducible assumption)))
local macro_rules | `(tactic| walk_at "compareOp LtE int float") => `(tactic| (refine' Flo.k_leiF ?hq ?_; (case hq => with_reducible assumption)))
local macro_rules | `(tactic| walk_at "compareOp Lt float int") => `(tactic| ((fail_if_success (with_reducible show wpAny _ _ (compareOp _ (Value.float (Flo.hf _) _) _) _ _ _)); refine' Flo.k_ltFi ?hq ?_; (case hq => with_reducible assumption)))
local macro_rules | `(tactic| walk_at "eval Call") => `(tactic| (k_dflt (refine Call_ ?_)))
local macro_rules | `(tactic| walk_at "execs cons") => `(tactic| (k_here; (with_reducible refine gen_tk ?_); intro _; (with_reducible refine wpAny_execs_cons ?_); (try dsimp only)))
local macro_rules | `(tactic| walk_at "my need") => `(tactic| first | with_reducible exact need_nil | with_reducible assumption | ((repeat (with_reducible refine need_cons ?_)); with_reducible assumption))
local macro_rules | `(tactic| walk_at "my N") => `(tactic| first | k_asm | ((rename News _ _ _ _ => nE'); exact fun p hp => nE' p (by (repeat (first | with_reducible exact hp | with_reducible refine List.mem_cons_of_mem _ ?_)))))

/-- the object at q, where the ledger holds need, is called as the function Ec -/
structure EqFn (w : World) (need : Led) (q : Addr) (Ec : Int → Int) : Prop where
  fn : ∃ oc od fd sl, (q, (⟨oc, od, .func fd, sl⟩ : Obj)) ∈ need
  says : ∀ y t, Says w need q [.int y t] 4 40 (RetI (Ec y))
theorem EqFn.at {w : World} {need news : Led} {q : Addr} {Ec : Int → Int} {h₀ h : Heap} {L : Addr} (H : EqFn w need q Ec) (N : News h₀ L h news) (hn : ∀ p ∈ need, p ∈ news) : FnAt q h :=
  let ⟨_, _, _, _, hm⟩ := H.fn
  FnAt.of N (hn _ hm)
local macro_rules | `(tactic| walk_at "callWith ref") => `(tactic| (k_here; k_dflt (refine' callWith_F ?k1 ?_; (case k1 => refine' EqFn.at ?e ?N ?n; (case e => assumption); (case N => k_asm); (case n => walk_at "my need")); k_whole)))
local macro_rules | `(tactic| walk_at "And") => `(tactic| ((with_reducible show FnAt _ _ ∧ _); k_dflt (refine' ⟨?k1, ?_⟩; (case k1 => refine' EqFn.at ?e ?N ?n; (case e => assumption); (case N => k_asm); (case n => walk_at "my need"))); (try dsimp only [List.nil_append, List.cons_append])))
theorem EqFn.use {w : World} {need : Led} {q : Addr} {Ec : Int → Int} (H : EqFn w need q Ec) (y : Int) (t : Tok) : Says w need q [.int y t] 4 40 (RetI (Ec y)) := H.says y t
local macro_rules | `(tactic| walk_at "call ref") => `(tactic| (k_here; k_dflt (refine' Says.use (EqFn.use (by assumption) _ _) ?k1 ?k2 ?k3 ?k4 ?k5 ?k6 ?k7 ?k8 ?k9 ?_; (case k1 => k_asm); (case k2 => k_asm); (case k3 => k_asm); (case k4 => k_asm); (case k5 => k_asm); (case k6 => first | exact rfl | assumption); (case k7 => walk_at "my need"); (case k8 => ktr_room); (case k9 => ktr_units); k_whole; (intro t9 h9 tk9 F9 N9); (all_goals (try dsimp only)); (all_goals (try k_fold)))))

local macro_rules | `(tactic| walk_at "call ref") => `(tactic| (k_here; k_dflt (refine' Says.use (c_from_jd _ _ _ _ ?s1 ?s2 ?s3) ?k1 ?k2 ?k3 ?k4 ?k5 ?k6 ?k7 ?k8 ?k9 ?_; (case k1 => k_asm); (case k2 => k_asm); (case k3 => k_asm); (case k4 => k_asm); (case k5 => k_asm); (case k6 => first | exact rfl | assumption); (case k7 => walk_at "my need"); (case s1 => first | assumption | omega | decide | exact one_le_ml _ _ | ((try dsimp only); omega)); (case s2 => first | assumption | omega | decide | exact one_le_ml _ _ | ((try dsimp only); omega)); (case s3 => first | assumption | omega | decide | exact one_le_ml _ _ | ((try dsimp only); omega)); (case k8 => ktr_room); (case k9 => ktr_units); k_whole; (intro x9 y9 mo9 d9 t91 t92 t93 h9 tk9 P9 F9 N9 l9; (try k_lt l9)); (rcases (by assumption : ∀ y m d, IsDate _ y m d → _ ∨ _) _ _ _ P9 with hy9 | hy9 <;> subst hy9); (all_goals (try dsimp only)); (all_goals (try k_fold)))))
local macro_rules | `(tactic| walk_at "exec While Compare") => `(tactic| (k_here; k_dflt (refine whl_start 100 ?_)))
local macro_rules | `(tactic| walk_at "exec While UnaryOp") => `(tactic| (k_here; k_dflt (refine whl_start 100 ?_)))
local macro_rules | `(tactic| walk_at "WhlIf") => `(tactic| (k_dflt (first | (refine WhlIf.yes (decide_eq_true (by omega)) ?_) | (refine WhlIf.no (decide_eq_false (by omega)) ?_) | (refine WhlIf.yes (by rw [Bool.not_eq_true', decide_eq_false_iff_not]; omega) ?_) | (refine WhlIf.no (by rw [Bool.not_eq_false', decide_eq_true_eq]; omega) ?_))))
theorem last_year {E : Int → Int} (H : Opens E) {k k2 c y m d : Int} (hc1 : -40900 < c) (hc2 : c < 41900) (h1 : E c ≤ k) (h2 : k < E (c + 1)) (hk : k2 = k - 1 ∨ k2 = k) (h : IsDate (k2 + 1) y m d) : y = c ∨ y = c + 1 := by
  have a := H.year (c := c) (by omega) (by omega)
  have b := H.year (c := c + 1) (by omega) (by omega)
  have s := yo_succ (c + 1)
  have s' := lp_le (c + 1)
  have e : c + 1 + 1 = c + 2 := by omega
  rw [e] at s
  exact year_two h.inYear (by omega) (by omega)

set_option maxHeartbeats 4000000 in
theorem c_last (w : World) (need : Led) (q : Addr) (Ec : Int → Int) (hE : EqFn w need q Ec) (H : Opens Ec) (x : UInt64) (k c : Int) (t : Tok) (hx : Flo.FlIs x k) (hc1 : -40900 < c) (hc2 : c < 41900) (h1 : Ec c ≤ k) (h2 : k < Ec (c + 1)) :
    Says w need 87 [.float x t, .ref q] 12 96 (RetI (Ec c - 1)) := by
  unfold Says
  k_fill
  intro pg loose mean mg mb news dp un gd cn cs a ccd cl outer A₀ base h₀ L m s Q E B F X N T hk hn9 hd9 hu9 hret
  have hb1 := H.year (c := c) (by omega) (by omega)
  have hb2 := H.year (c := c + 1) (by omega) (by omega)
  have hk9 : -19000000 < k ∧ k < 19000000 := by
    have n1 := H.near1 c
    have n2 := H.near2 (c + 1)
    generalize Ec c = e1 at *
    generalize Ec (c + 1) = e2 at *
    clear hb1 hb2 hret
    omega
  obtain ⟨k2, hx2, hk2⟩ := Flo.flIs_half hx (by omega)
  have hs1 : -20000000 < k2 := by omega
  have hs2 : k2 < 20000000 := by omega
  have hyear : ∀ y m d, IsDate (k2 + 1) y m d → y = c ∨ y = c + 1 := fun y m d h => last_year H hc1 hc2 h1 h2 hk2 h
  have e1 : Ec (c + 1 - 1) = Ec c := by rw [Int.add_sub_cancel]
  have e2 : Ec (c + 1 - 1 + 1) = Ec (c + 1) := by rw [Int.add_sub_cancel]
  clear hb1 hb2
  refine wpAny_call ?_
  k_dflt (refine' code_def (binds := [(Str.ofString "jd", .float x t), (Str.ofString "equinox_jd", .ref q)]) ?k1 ?k2 ?k3 ?k4 ?k5 ?kA ?kF ?kK ?k6 ?k7 ?k8 ?k9 ?kB ?_ ?c2 ?c3 ?c4 ?c5; (case kA => exact rfl); (case kF => exact rfl); (case kK => assumption); (case k1 => k_asm); (case k2 => k_asm); (case k3 => k_asm); (case k4 => k_asm); (case k5 => k_asm); (case k6 => k_is); (case k7 => k_is); (case k8 => ktr_room); (case k9 => exact BindsTo.of_eq rfl); (case c5 => decide); (case kB => exact locs rfl); (case c2 => exact rfl); (case c3 => exact rfl); (case c4 => exact rfl); k_whole; intro g' L' h' FG' F' N' B' X' T'; (try dsimp only [List.reverse_cons, List.reverse_nil, List.nil_append, List.cons_append, List.append_nil]); (try k_lift B'); (try k_fold))
  k_steps
  all_goals (first | exact endI hret (by k_asm) (by walk_at "my N") (by first | rfl | omega) | trace_state)
end Mine

end

section
set_option maxRecDepth 100000
namespace Mine
open PySem PySem.Float64 Flo

theorem round_ok {E : Int → Int} (H : Opens E) {c : Int} (h1 : -40900 < c) (h2 : c < 41900) : RoundIs (div (hf (2 * (E c - 1) - 3896641)) TROP) (c - 622) := by
  have a := H.near1 c
  have b := H.near2 c
  generalize E c = e at *
  have hn : Near (div (hf (2 * (e - 1) - 3896641)) TROP) ((c - 622) * 2 ^ 20 - 393216) ((c - 622) * 2 ^ 20 + 393216) := by
    refine near_divT (by omega) (by omega) (by omega) ?_ ?_
    · unfold mT; omega
    · unfold mT; omega
  have hn' := hn
  obtain ⟨s, m, x, hd, _⟩ := hn
  exact ⟨s, m, x, hd, near_round hn' hd (by omega) (by omega)⟩

theorem near_trop : Near TROP 382984203 382984204 := by
  have g : (0 : Int) < (2 ^ 1030 : Nat) := Int.ofNat_lt.mpr (Nat.two_pow_pos _)
  refine ⟨_, _, _, trop_dec, ?_, ?_⟩
  · rw [trop_val, G_R, Int.natCast_mul, show ((2 ^ 24 : Nat) : Int) = 2 ^ 24 from rfl]
    generalize ((2 ^ 1030 : Nat) : Int) = R at *
    have : (382984203 : Int) * (R * 2 ^ 24) = 382984203 * 2 ^ 24 * R := by rw [Int.mul_comm R, Int.mul_assoc]
    rw [this]
    exact Int.mul_le_mul_of_nonneg_right (by decide) (by omega)
  · rw [trop_val, G_R, Int.natCast_mul, show ((2 ^ 24 : Nat) : Int) = 2 ^ 24 from rfl]
    generalize ((2 ^ 1030 : Nat) : Int) = R at *
    have : (382984204 : Int) * (R * 2 ^ 24) = 382984204 * 2 ^ 24 * R := by rw [Int.mul_comm R, Int.mul_assoc]
    rw [this]
    exact Int.mul_le_mul_of_nonneg_right (by decide) (by omega)

/-- the first guess of to_jd lies in the year before last, or in the last -/
theorem guess0_ok {E : Int → Int} (H : Opens E) {y : Int} (h1 : -41400 < y) (h2 : y < 41200) :
    ∃ k, FlIs (add (hf (3896641 - 2 * 1)) (mul TROP (hf (2 * (y - 1 - 1))))) k ∧ ((E (y + 619) ≤ k ∧ k < E (y + 620)) ∨ (E (y + 620) ≤ k ∧ k < E (y + 621))) := by
  have hm : Near (mul TROP (hf (2 * (y - 1 - 1)))) ((y - 2) * mT / 2 ^ 24) ((y - 2) * mT / 2 ^ 24 + 1) := by
    refine near_mulT (by omega) ?_ ?_ ?_ ?_ <;> unfold mT <;> omega
  have ha := near_add (near_hf (a := 3896641 - 2 * 1) (by decide)) hm (by unfold mT; omega) (by unfold mT; omega)
  obtain ⟨k, hk, l1, l2⟩ := flIs_near ha
  refine ⟨k, hk, ?_⟩
  have a1 := H.near1 (y + 619)
  have a2 := H.near2 (y + 621)
  have a3 := H.lo (y + 619)
  have a4 := H.hi (y + 619)
  have a5 := H.near1 (y + 620)
  have a6 := H.near1 (y + 621)
  have a7 := H.near2 (y + 620)
  have a8 := H.near2 (y + 619)
  rw [show y + 619 + 1 = y + 620 by omega] at a3 a4
  generalize E (y + 619) = e1 at *
  generalize E (y + 620) = e2 at *
  generalize E (y + 621) = e3 at *
  unfold mT at *
  omega

/-- the next guess lies in the next year -/
theorem guess1_ok {E : Int → Int} (H : Opens E) {c : Int} (h1 : -40900 < c) (h2 : c < 41900) :
    ∃ k, FlIs (add (add (hf (2 * (E c - 1))) TROP) (hf (2 * 2))) k ∧ E (c + 1) ≤ k ∧ k < E (c + 1 + 1) := by
  have a0 := H.near1 c
  have b0 := H.near2 c
  have a := H.lo c
  have b := H.hi c
  have a' := H.lo (c + 1)
  have b' := H.hi (c + 1)
  have n1 := near_add (near_hf (a := 2 * (E c - 1)) (by omega)) near_trop (by omega) (by omega)
  have n2 := near_add n1 (near_hf (a := 2 * 2) (by decide)) (by omega) (by omega)
  obtain ⟨k, hk, l1, l2⟩ := flIs_near n2
  refine ⟨k, hk, ?_⟩
  generalize E c = e1 at *
  generalize E (c + 1) = e2 at *
  generalize E (c + 1 + 1) = e3 at *
  omega
end Mine

end

section
open PySem PySem.W PyProof.Rows PySem.Spec PySem.Calls
set_option Elab.async false
set_option maxRecDepth 100000
namespace Mine
local macro_rules | `(tactic| walk_at "eval Constant float") => `(tactic| (k_dflt (refine Flo.k_const Flo.half_lit ?_)))
local macro_rules | `(tactic| walk_at "binaryOp Sub float float") => `(tactic| (k_dflt ((fail_if_success (with_reducible show wpAny _ _ (binaryOp _ _ (Value.float (Flo.hf _) _)) _ _ _)); (fail_if_success (with_reducible show wpAny _ _ (binaryOp _ _ (Value.float Flo.TROP _)) _ _ _)); refine Flo.k_subL Flo.epg_lit ?_)))
local macro_rules | `(tactic| walk_at "binaryOp Sub float float") => `(tactic| (k_dflt ((fail_if_success (with_reducible show wpAny _ _ (binaryOp _ _ (Value.float (Flo.hf _) _)) _ _ _)); (fail_if_success (with_reducible show wpAny _ _ (binaryOp _ _ (Value.float Flo.TROP _)) _ _ _)); refine Flo.k_subL Flo.epp_lit ?_)))
local macro_rules | `(tactic| walk_at "binaryOp Sub int float") => `(tactic| (k_dflt ((fail_if_success (with_reducible show wpAny _ _ (binaryOp _ _ (Value.float (Flo.hf _) _)) _ _ _)); (fail_if_success (with_reducible show wpAny _ _ (binaryOp _ _ (Value.float Flo.TROP _)) _ _ _)); refine Flo.k_subL Flo.epp_lit ?_)))
local macro_rules | `(tactic| walk_at "binaryOp Sub float int") => `(tactic| (k_dflt ((fail_if_success (with_reducible show wpAny _ _ (binaryOp _ (Value.float (Flo.hf _) _) _) _ _ _)); (fail_if_success (with_reducible show wpAny _ _ (binaryOp _ (Value.float Flo.TROP _) _) _ _ _)); refine Flo.k_Lsub Flo.epg_lit ?_)))
local macro_rules | `(tactic| walk_at "binaryOp Sub float int") => `(tactic| (k_dflt ((fail_if_success (with_reducible show wpAny _ _ (binaryOp _ (Value.float (Flo.hf _) _) _) _ _ _)); (fail_if_success (with_reducible show wpAny _ _ (binaryOp _ (Value.float Flo.TROP _) _) _ _ _)); refine Flo.k_Lsub Flo.epp_lit ?_)))
local macro_rules | `(tactic| walk_at "binaryOp Mult float int") => `(tactic| (k_dflt ((fail_if_success (with_reducible show wpAny _ _ (binaryOp _ (Value.float (Flo.hf _) _) _) _ _ _)); (fail_if_success (with_reducible show wpAny _ _ (binaryOp _ (Value.float Flo.TROP _) _) _ _ _)); refine Flo.k_Lmul Flo.trop_lit ?_)))
local macro_rules | `(tactic| walk_at "binaryOp Div float float") => `(tactic| (k_dflt ((fail_if_success (with_reducible show wpAny _ _ (binaryOp _ _ (Value.float (Flo.hf _) _)) _ _ _)); (fail_if_success (with_reducible show wpAny _ _ (binaryOp _ _ (Value.float Flo.TROP _)) _ _ _)); refine Flo.k_divL Flo.trop_lit ?_)))
local macro_rules | `(tactic| walk_at "binaryOp Add int float") => `(tactic| (k_dflt ((fail_if_success (with_reducible show wpAny _ _ (binaryOp _ _ (Value.float (Flo.hf _) _)) _ _ _)); (fail_if_success (with_reducible show wpAny _ _ (binaryOp _ _ (Value.float Flo.TROP _)) _ _ _)); refine Flo.k_addL Flo.trop_lit ?_)))
local macro_rules | `(tactic| walk_at "binaryOp Add int bool") => `(tactic| (first | refine' Flo.k_addit ?_ | refine' Flo.k_addif0 ?_))
local macro_rules | `(tactic| walk_at "binaryOp Add float float") => `(tactic| ((with_reducible show wpAny _ _ (binaryOp _ (Value.float (Flo.hf _) _) (Value.float (Flo.hf _) _)) _ _ _); refine' Flo.k_addff ?_ ?a0 ?a1; (case a0 => k_dflt omega); (case a1 => k_dflt omega)))
local macro_rules | `(tactic| walk_at "binaryOp Sub float float") => `(tactic| ((with_reducible show wpAny _ _ (binaryOp _ (Value.float (Flo.hf _) _) (Value.float (Flo.hf _) _)) _ _ _); refine' Flo.k_subff ?_ ?a0 ?a1; (case a0 => k_dflt omega); (case a1 => k_dflt omega)))
local macro_rules | `(tactic| walk_at "binaryOp Add float int") => `(tactic| ((fail_if_success (with_reducible show wpAny _ _ (binaryOp _ (Value.float (Flo.hf _) _) _) _ _ _)); refine' Flo.k_addQi ?_ ?hq ?h1 ?h2 ?h3 ?h4; (case hq => with_reducible assumption); (case h1 => k_dflt decide); (case h2 => k_dflt decide); (case h3 => k_dflt omega); (case h4 => k_dflt omega); intro _ _))
local macro_rules | `(tactic| walk_at "binaryOp Add float int") => `(tactic| ((with_reducible show wpAny _ _ (binaryOp _ (Value.float (Flo.hf _) _) (Value.int _ _)) _ _ _); refine' Flo.k_addfi ?_ ?a ?b; (case a => k_dflt omega); (case b => k_dflt omega)))
local macro_rules | `(tactic| walk_at "binaryOp Add int float") => `(tactic| ((with_reducible show wpAny _ _ (binaryOp _ (Value.int _ _) (Value.float Flo.TROP _)) _ _ _); refine' Flo.k_addiX ?_ ?a0; (case a0 => k_dflt omega)))
local macro_rules | `(tactic| walk_at "binaryOp Add float int") => `(tactic| ((with_reducible show wpAny _ _ (binaryOp _ (Value.float (Float64.add _ _) _) (Value.int _ _)) _ _ _); refine' Flo.k_addXi ?_ ?a0; (case a0 => k_dflt omega)))
local macro_rules | `(tactic| walk_at "binaryOp Add int float") => `(tactic| ((with_reducible show wpAny _ _ (binaryOp _ (Value.int _ _) (Value.float (Flo.hf _) _)) _ _ _); refine' Flo.k_addif ?_ ?a0 ?a1; (case a0 => k_dflt omega); (case a1 => k_dflt omega)))
local macro_rules | `(tactic| walk_at "binaryOp Sub float int") => `(tactic| ((with_reducible show wpAny _ _ (binaryOp _ (Value.float (Flo.hf _) _) (Value.int _ _)) _ _ _); refine' Flo.k_subfi ?_ ?a0 ?a1; (case a0 => k_dflt omega); (case a1 => k_dflt omega)))
local macro_rules | `(tactic| walk_at "binaryOp Sub int float") => `(tactic| ((with_reducible show wpAny _ _ (binaryOp _ (Value.int _ _) (Value.float (Flo.hf _) _)) _ _ _); refine' Flo.k_subif ?_ ?a0 ?a1; (case a0 => k_dflt omega); (case a1 => k_dflt omega)))
local macro_rules | `(tactic| walk_at "binaryOp Mult float int") => `(tactic| ((with_reducible show wpAny _ _ (binaryOp _ (Value.float (Flo.hf _) _) (Value.int _ _)) _ _ _); refine' Flo.k_mulfi ?_ ?a0 ?a1 ?a2 ?a3; (case a0 => k_dflt omega); (case a1 => k_dflt omega); (case a2 => k_dflt decide); (case a3 => k_dflt decide)))
local macro_rules | `(tactic| walk_at "binaryOp Mult float int") => `(tactic| ((with_reducible show wpAny _ _ (binaryOp _ (Value.float Flo.TROP _) (Value.int _ _)) _ _ _); refine' Flo.k_mulT ?_ ?a0; (case a0 => k_dflt omega)))
local macro_rules | `(tactic| walk_at "binaryOp Mod float int") => `(tactic| ((with_reducible show wpAny _ _ (binaryOp _ (Value.float (Flo.hf _) _) (Value.int _ _)) _ _ _); refine' Flo.k_modfi ?_ ?a0 ?a1 ?a2 ?a3; (case a0 => k_dflt omega); (case a1 => k_dflt omega); (case a2 => k_dflt decide); (case a3 => k_dflt decide); intro _ _ _ _ _))
local macro_rules | `(tactic| walk_at "binaryOp Mod float int") => `(tactic| ((with_reducible show wpAny _ _ (binaryOp _ (Value.float (Flo.hf (2 * _)) _) (Value.int _ _)) _ _ _); refine' Flo.k_modfi2 ?_ ?a0 ?a1 ?a2; (case a0 => k_dflt omega); (case a1 => k_dflt decide); (case a2 => k_dflt decide)))
local macro_rules | `(tactic| walk_at "binaryOp Div float int") => `(tactic| ((with_reducible show wpAny _ _ (binaryOp _ (Value.float (Flo.hf _) _) (Value.int _ _)) _ _ _); refine' Flo.k_divfi ?_ ?a0 ?a1 ?a2 ?a3; (case a0 => k_dflt omega); (case a1 => k_dflt omega); (case a2 => k_dflt decide); (case a3 => k_dflt decide); intro _ _ _ _))
local macro_rules | `(tactic| walk_at "binaryOp Div float int") => `(tactic| ((with_reducible show wpAny _ _ (binaryOp _ (Value.float (Flo.hf (2 * _)) _) (Value.int _ _)) _ _ _); refine' Flo.k_divfi2 ?_ ?a0 ?a1 ?a2; (case a0 => k_dflt omega); (case a1 => k_dflt decide); (case a2 => k_dflt decide); intro _ _))
local macro_rules | `(tactic| walk_at "binaryOp Div float float") => `(tactic| ((with_reducible show wpAny _ _ (binaryOp _ (Value.float (Flo.hf _) _) (Value.float Flo.TROP _)) _ _ _); refine Flo.k_divT ?_))
local macro_rules | `(tactic| walk_at "binaryOp Div int int") => `(tactic| (refine' Flo.k_divii ?_ ?a0 ?a1 ?a2; (case a0 => k_dflt omega); (case a1 => k_dflt decide); (case a2 => k_dflt decide); intro _ _))
local macro_rules | `(tactic| walk_at "call builtin:math.floor") => `(tactic| ((with_reducible show wpAny _ _ (call _ [(Value.float (Flo.hf _) _)]) _ _ _); refine' Flo.k_floorH ?_ ?h1 ?h2; (case h1 => k_dflt omega); (case h2 => k_dflt exact rfl); intro _ _ _))
local macro_rules | `(tactic| walk_at "call builtin:math.floor") => `(tactic| ((fail_if_success (with_reducible show wpAny _ _ (call _ [(Value.float (Flo.hf _) _)]) _ _ _)); refine' Flo.k_floorQ ?hq ?_ ?h1 ?h2 ?h3; (case hq => with_reducible assumption); (case h1 => k_dflt decide); (case h2 => k_dflt decide); (case h3 => k_dflt exact rfl); intro _ _ _))
local macro_rules | `(tactic| walk_at "call builtin:math.floor") => `(tactic| ((fail_if_success (with_reducible show wpAny _ _ (call _ [(Value.float (Flo.hf _) _)]) _ _ _)); refine' Flo.k_floorFl ?hq ?_ ?h3; (case hq => with_reducible assumption); (case h3 => k_dflt exact rfl)))
local macro_rules | `(tactic| walk_at "call builtin:math.ceil") => `(tactic| ((fail_if_success (with_reducible show wpAny _ _ (call _ [(Value.float (Flo.hf _) _)]) _ _ _)); refine' Flo.k_ceilQ ?hq ?_ ?h1 ?h2 ?h3; (case hq => with_reducible assumption); (case h1 => k_dflt decide); (case h2 => k_dflt decide); (case h3 => k_dflt exact rfl); intro _ _ _))
local macro_rules | `(tactic| walk_at "call builtin:round") => `(tactic| ((fail_if_success (with_reducible show wpAny _ _ (call _ [(Value.float (Flo.hf _) _)]) _ _ _)); refine' Flo.k_round ?hq ?_ ?h3; (case hq => with_reducible assumption); (case h3 => k_dflt exact rfl)))
local macro_rules | `(tactic| walk_at "call type:int") => `(tactic| ((with_reducible show wpAny _ _ (call _ [(Value.float (Flo.hf _) _)]) _ _ _); refine' Flo.k_intH ?_ ?h1 ?h2; (case h1 => k_dflt omega); (case h2 => k_dflt omega); intro _ _))
local macro_rules | `(tactic| walk_at "compareOp Lt float int") => `(tactic| ((with_reducible show wpAny _ _ (compareOp _ (Value.float (Flo.hf _) _) (Value.int _ _)) _ _ _); refine' Flo.k_ltfi ?_ ?h1; (case h1 => k_dflt omega)))
local macro_rules | `(tactic| walk_at "compareOp LtE float int") => `(tactic| ((with_reducible show wpAny _ _ (compareOp _ (Value.float (Flo.hf _) _) (Value.int _ _)) _ _ _); refine' Flo.k_lefi ?_ ?h1; (case h1 => k_dflt omega)))
local macro_rules | `(tactic| walk_at "compareOp Gt float int") => `(tactic| ((with_reducible show wpAny _ _ (compareOp _ (Value.float (Flo.hf _) _) (Value.int _ _)) _ _ _); refine' Flo.k_gtfi ?_ ?h1; (case h1 => k_dflt omega)))
local macro_rules | `(tactic| walk_at "compareOp NotEq float float") => `(tactic| ((with_reducible show wpAny _ _ (compareOp _ (Value.float (Flo.hf _) _) (Value.float (Flo.hf _) _)) _ _ _); refine' Flo.k_neff ?_ ?h1 ?h2; (case h1 => k_dflt omega); (case h2 => k_dflt omega)))
local macro_rules | `(tactic| walk_at "compareOp Gt int float") => `(tactic| (refine' Flo.k_gtiF ?hq ?_; (case hq => with_reducible assumption)))
local macro_rules | `(tactic| walk_at "compareOp LtE int float") => `(tactic| (refine' Flo.k_leiF ?hq ?_; (case hq => with_reducible assumption)))
local macro_rules | `(tactic| walk_at "compareOp Lt float int") => `(tactic| ((fail_if_success (with_reducible show wpAny _ _ (compareOp _ (Value.float (Flo.hf _) _) _) _ _ _)); refine' Flo.k_ltFi ?hq ?_; (case hq => with_reducible assumption)))
local macro_rules | `(tactic| walk_at "eval Call") => `(tactic| (k_dflt (refine Call_ ?_)))
local macro_rules | `(tactic| walk_at "execs cons") => `(tactic| (k_here; (with_reducible refine gen_tk ?_); intro _; (with_reducible refine wpAny_execs_cons ?_); (try dsimp only)))
local macro_rules | `(tactic| walk_at "my need") => `(tactic| first | with_reducible exact need_nil | with_reducible assumption | ((repeat (with_reducible refine need_cons ?_)); with_reducible assumption))
local macro_rules | `(tactic| walk_at "my N") => `(tactic| first | k_asm | ((rename News _ _ _ _ => nE'); exact fun p hp => nE' p (by (repeat (first | with_reducible exact hp | with_reducible refine List.mem_cons_of_mem _ ?_)))))
local macro_rules | `(tactic| walk_at "exec While Compare") => `(tactic| (k_here; k_dflt (refine whl_start 100 ?_)))
local macro_rules | `(tactic| walk_at "WhlIf") => `(tactic| (k_dflt (first | (refine WhlIf.yes (decide_eq_true (by omega)) ?_) | (refine WhlIf.no (decide_eq_false (by omega)) ?_))))
/-- the moment x, whose floor is k, lies in the year c -/
structure InOp (Ec : Int → Int) (x : UInt64) (k c : Int) : Prop where
  fl : Flo.FlIs x k
  c1 : -40900 < c
  c2 : c < 41900
  k1 : Ec c ≤ k
  k2 : k < Ec (c + 1)
theorem c_last' (w : World) (need : Led) (q : Addr) (Ec : Int → Int) (x : UInt64) (k c : Int) (t : Tok) (hE : EqFn w need q Ec) (H : Opens Ec) (hx : InOp Ec x k c) :
    Says w need 87 [.float x t, .ref q] 12 96 (RetI (Ec c - 1)) := c_last w need q Ec hE H x k c t hx.fl hx.c1 hx.c2 hx.k1 hx.k2
local macro_rules | `(tactic| walk_at "call ref") => `(tactic| (k_here; k_dflt (refine' Says.use (c_last' _ _ _ _ _ _ _ _ (by assumption) (by assumption) (by assumption)) ?k1 ?k2 ?k3 ?k4 ?k5 ?k6 ?k7 ?k8 ?k9 ?_; (case k1 => k_asm); (case k2 => k_asm); (case k3 => k_asm); (case k4 => k_asm); (case k5 => k_asm); (case k6 => first | exact rfl | assumption); (case k7 => walk_at "my need"); (case k8 => ktr_room); (case k9 => ktr_units); k_whole; (intro t9 h9 tk9 F9 N9); (all_goals (try dsimp only)); (all_goals (try k_fold)))))

set_option maxHeartbeats 4000000 in
theorem c_pyear (w : World) (need : Led) (q : Addr) (Ec : Int → Int) (x : UInt64) (k c : Int) (t : Tok) (hE : EqFn w need q Ec) (H : Opens Ec) (hx : InOp Ec x k c) :
    Says w need 94 [.float x t, .ref q] 14 112 (RetT2 fun y e => y = c - 621 ∧ e = Ec c - 1) := by
  unfold Says
  k_fill
  intro pg loose mean mg mb news dp un gd cn cs a ccd cl outer A₀ base h₀ L m s Q E B F X N T hk hn9 hd9 hu9 hret
  have hround := round_ok H hx.c1 hx.c2
  have hb : -20000000 < Ec c ∧ Ec c < 20000000 := by
    have n1 := H.near1 c
    have n2 := H.near2 c
    have := hx.c1
    have := hx.c2
    generalize Ec c = e1 at *
    clear hret
    omega
  refine wpAny_call ?_
  k_dflt (refine' code_def (binds := [(Str.ofString "jd", .float x t), (Str.ofString "equinox_jd", .ref q)]) ?k1 ?k2 ?k3 ?k4 ?k5 ?kA ?kF ?kK ?k6 ?k7 ?k8 ?k9 ?kB ?_ ?c2 ?c3 ?c4 ?c5; (case kA => exact rfl); (case kF => exact rfl); (case kK => assumption); (case k1 => k_asm); (case k2 => k_asm); (case k3 => k_asm); (case k4 => k_asm); (case k5 => k_asm); (case k6 => k_is); (case k7 => k_is); (case k8 => ktr_room); (case k9 => exact BindsTo.of_eq rfl); (case c5 => decide); (case kB => exact locs rfl); (case c2 => exact rfl); (case c3 => exact rfl); (case c4 => exact rfl); k_whole; intro g' L' h' FG' F' N' B' X' T'; (try dsimp only [List.reverse_cons, List.reverse_nil, List.nil_append, List.cons_append, List.append_nil]); (try k_lift B'); (try k_fold))
  k_steps
  all_goals (first | exact endT2 hret (by k_asm) (by walk_at "my N") (by assumption) ⟨by omega, rfl⟩ | trace_state)
end Mine

end

section
open PySem PySem.W PyProof.Rows PySem.Spec PySem.Calls
set_option Elab.async false
set_option maxRecDepth 100000
namespace Mine
local macro_rules | `(tactic| walk_at "my pad") => `(tactic| skip)
local macro_rules | `(tactic| walk_at "eval Constant float") => `(tactic| (k_dflt (refine Flo.k_const Flo.half_lit ?_)))
local macro_rules | `(tactic| walk_at "binaryOp Sub float float") => `(tactic| (k_dflt ((fail_if_success (with_reducible show wpAny _ _ (binaryOp _ _ (Value.float (Flo.hf _) _)) _ _ _)); (fail_if_success (with_reducible show wpAny _ _ (binaryOp _ _ (Value.float Flo.TROP _)) _ _ _)); refine Flo.k_subL Flo.epg_lit ?_)))
local macro_rules | `(tactic| walk_at "binaryOp Sub float float") => `(tactic| (k_dflt ((fail_if_success (with_reducible show wpAny _ _ (binaryOp _ _ (Value.float (Flo.hf _) _)) _ _ _)); (fail_if_success (with_reducible show wpAny _ _ (binaryOp _ _ (Value.float Flo.TROP _)) _ _ _)); refine Flo.k_subL Flo.epp_lit ?_)))
local macro_rules | `(tactic| walk_at "binaryOp Sub int float") => `(tactic| (k_dflt ((fail_if_success (with_reducible show wpAny _ _ (binaryOp _ _ (Value.float (Flo.hf _) _)) _ _ _)); (fail_if_success (with_reducible show wpAny _ _ (binaryOp _ _ (Value.float Flo.TROP _)) _ _ _)); refine Flo.k_subL Flo.epp_lit ?_)))
local macro_rules | `(tactic| walk_at "binaryOp Sub float int") => `(tactic| (k_dflt ((fail_if_success (with_reducible show wpAny _ _ (binaryOp _ (Value.float (Flo.hf _) _) _) _ _ _)); (fail_if_success (with_reducible show wpAny _ _ (binaryOp _ (Value.float Flo.TROP _) _) _ _ _)); refine Flo.k_Lsub Flo.epg_lit ?_)))
local macro_rules | `(tactic| walk_at "binaryOp Sub float int") => `(tactic| (k_dflt ((fail_if_success (with_reducible show wpAny _ _ (binaryOp _ (Value.float (Flo.hf _) _) _) _ _ _)); (fail_if_success (with_reducible show wpAny _ _ (binaryOp _ (Value.float Flo.TROP _) _) _ _ _)); refine Flo.k_Lsub Flo.epp_lit ?_)))
local macro_rules | `(tactic| walk_at "binaryOp Mult float int") => `(tactic| (k_dflt ((fail_if_success (with_reducible show wpAny _ _ (binaryOp _ (Value.float (Flo.hf _) _) _) _ _ _)); (fail_if_success (with_reducible show wpAny _ _ (binaryOp _ (Value.float Flo.TROP _) _) _ _ _)); refine Flo.k_Lmul Flo.trop_lit ?_)))
local macro_rules | `(tactic| walk_at "binaryOp Div float float") => `(tactic| (k_dflt ((fail_if_success (with_reducible show wpAny _ _ (binaryOp _ _ (Value.float (Flo.hf _) _)) _ _ _)); (fail_if_success (with_reducible show wpAny _ _ (binaryOp _ _ (Value.float Flo.TROP _)) _ _ _)); refine Flo.k_divL Flo.trop_lit ?_)))
local macro_rules | `(tactic| walk_at "binaryOp Add int float") => `(tactic| (k_dflt ((fail_if_success (with_reducible show wpAny _ _ (binaryOp _ _ (Value.float (Flo.hf _) _)) _ _ _)); (fail_if_success (with_reducible show wpAny _ _ (binaryOp _ _ (Value.float Flo.TROP _)) _ _ _)); refine Flo.k_addL Flo.trop_lit ?_)))
local macro_rules | `(tactic| walk_at "binaryOp Add int bool") => `(tactic| (first | refine' Flo.k_addit ?_ | refine' Flo.k_addif0 ?_))
local macro_rules | `(tactic| walk_at "binaryOp Add float float") => `(tactic| ((with_reducible show wpAny _ _ (binaryOp _ (Value.float (Flo.hf _) _) (Value.float (Flo.hf _) _)) _ _ _); refine' Flo.k_addff ?_ ?a0 ?a1; (case a0 => k_dflt omega); (case a1 => k_dflt omega)))
local macro_rules | `(tactic| walk_at "binaryOp Sub float float") => `(tactic| ((with_reducible show wpAny _ _ (binaryOp _ (Value.float (Flo.hf _) _) (Value.float (Flo.hf _) _)) _ _ _); refine' Flo.k_subff ?_ ?a0 ?a1; (case a0 => k_dflt omega); (case a1 => k_dflt omega)))
local macro_rules | `(tactic| walk_at "binaryOp Add float int") => `(tactic| ((fail_if_success (with_reducible show wpAny _ _ (binaryOp _ (Value.float (Flo.hf _) _) _) _ _ _)); refine' Flo.k_addQi ?_ ?hq ?h1 ?h2 ?h3 ?h4; (case hq => with_reducible assumption); (case h1 => k_dflt decide); (case h2 => k_dflt decide); (case h3 => k_dflt omega); (case h4 => k_dflt omega); intro _ _))
local macro_rules | `(tactic| walk_at "binaryOp Add float int") => `(tactic| ((with_reducible show wpAny _ _ (binaryOp _ (Value.float (Flo.hf _) _) (Value.int _ _)) _ _ _); refine' Flo.k_addfi ?_ ?a ?b; (case a => k_dflt omega); (case b => k_dflt omega)))
local macro_rules | `(tactic| walk_at "binaryOp Add int float") => `(tactic| ((with_reducible show wpAny _ _ (binaryOp _ (Value.int _ _) (Value.float Flo.TROP _)) _ _ _); refine' Flo.k_addiX ?_ ?a0; (case a0 => k_dflt omega)))
local macro_rules | `(tactic| walk_at "binaryOp Add float int") => `(tactic| ((with_reducible show wpAny _ _ (binaryOp _ (Value.float (Float64.add _ _) _) (Value.int _ _)) _ _ _); refine' Flo.k_addXi ?_ ?a0; (case a0 => k_dflt omega)))
local macro_rules | `(tactic| walk_at "binaryOp Add int float") => `(tactic| ((with_reducible show wpAny _ _ (binaryOp _ (Value.int _ _) (Value.float (Flo.hf _) _)) _ _ _); refine' Flo.k_addif ?_ ?a0 ?a1; (case a0 => k_dflt omega); (case a1 => k_dflt omega)))
local macro_rules | `(tactic| walk_at "binaryOp Sub float int") => `(tactic| ((with_reducible show wpAny _ _ (binaryOp _ (Value.float (Flo.hf _) _) (Value.int _ _)) _ _ _); refine' Flo.k_subfi ?_ ?a0 ?a1; (case a0 => k_dflt omega); (case a1 => k_dflt omega)))
local macro_rules | `(tactic| walk_at "binaryOp Sub int float") => `(tactic| ((with_reducible show wpAny _ _ (binaryOp _ (Value.int _ _) (Value.float (Flo.hf _) _)) _ _ _); refine' Flo.k_subif ?_ ?a0 ?a1; (case a0 => k_dflt omega); (case a1 => k_dflt omega)))
local macro_rules | `(tactic| walk_at "binaryOp Mult float int") => `(tactic| ((with_reducible show wpAny _ _ (binaryOp _ (Value.float (Flo.hf _) _) (Value.int _ _)) _ _ _); refine' Flo.k_mulfi ?_ ?a0 ?a1 ?a2 ?a3; (case a0 => k_dflt omega); (case a1 => k_dflt omega); (case a2 => k_dflt decide); (case a3 => k_dflt decide)))
local macro_rules | `(tactic| walk_at "binaryOp Mult float int") => `(tactic| ((with_reducible show wpAny _ _ (binaryOp _ (Value.float Flo.TROP _) (Value.int _ _)) _ _ _); refine' Flo.k_mulT ?_ ?a0; (case a0 => k_dflt omega)))
local macro_rules | `(tactic| walk_at "binaryOp Mod float int") => `(tactic| ((with_reducible show wpAny _ _ (binaryOp _ (Value.float (Flo.hf _) _) (Value.int _ _)) _ _ _); refine' Flo.k_modfi ?_ ?a0 ?a1 ?a2 ?a3; (case a0 => k_dflt omega); (case a1 => k_dflt omega); (case a2 => k_dflt decide); (case a3 => k_dflt decide); intro _ _ _ _ _))
local macro_rules | `(tactic| walk_at "binaryOp Mod float int") => `(tactic| ((with_reducible show wpAny _ _ (binaryOp _ (Value.float (Flo.hf (2 * _)) _) (Value.int _ _)) _ _ _); refine' Flo.k_modfi2 ?_ ?a0 ?a1 ?a2; (case a0 => k_dflt omega); (case a1 => k_dflt decide); (case a2 => k_dflt decide)))
local macro_rules | `(tactic| walk_at "binaryOp Div float int") => `(tactic| ((with_reducible show wpAny _ _ (binaryOp _ (Value.float (Flo.hf _) _) (Value.int _ _)) _ _ _); refine' Flo.k_divfi ?_ ?a0 ?a1 ?a2 ?a3; (case a0 => k_dflt omega); (case a1 => k_dflt omega); (case a2 => k_dflt decide); (case a3 => k_dflt decide); intro _ _ _ _))
local macro_rules | `(tactic| walk_at "binaryOp Div float int") => `(tactic| ((with_reducible show wpAny _ _ (binaryOp _ (Value.float (Flo.hf (2 * _)) _) (Value.int _ _)) _ _ _); refine' Flo.k_divfi2 ?_ ?a0 ?a1 ?a2; (case a0 => k_dflt omega); (case a1 => k_dflt decide); (case a2 => k_dflt decide); intro _ _))
local macro_rules | `(tactic| walk_at "binaryOp Div float float") => `(tactic| ((with_reducible show wpAny _ _ (binaryOp _ (Value.float (Flo.hf _) _) (Value.float Flo.TROP _)) _ _ _); refine Flo.k_divT ?_))
local macro_rules | `(tactic| walk_at "binaryOp Div int int") => `(tactic| (refine' Flo.k_divii ?_ ?a0 ?a1 ?a2; (case a0 => k_dflt omega); (case a1 => k_dflt decide); (case a2 => k_dflt decide); intro _ _))
local macro_rules | `(tactic| walk_at "call builtin:math.floor") => `(tactic| ((with_reducible show wpAny _ _ (call _ [(Value.float (Flo.hf _) _)]) _ _ _); refine' Flo.k_floorH ?_ ?h1 ?h2; (case h1 => k_dflt omega); (case h2 => k_dflt exact rfl); intro _ _ _))
local macro_rules | `(tactic| walk_at "call builtin:math.floor") => `(tactic| ((fail_if_success (with_reducible show wpAny _ _ (call _ [(Value.float (Flo.hf _) _)]) _ _ _)); refine' Flo.k_floorQ ?hq ?_ ?h1 ?h2 ?h3; (case hq => with_reducible assumption); (case h1 => k_dflt decide); (case h2 => k_dflt decide); (case h3 => k_dflt exact rfl); intro _ _ _))
local macro_rules | `(tactic| walk_at "call builtin:math.floor") => `(tactic| ((fail_if_success (with_reducible show wpAny _ _ (call _ [(Value.float (Flo.hf _) _)]) _ _ _)); refine' Flo.k_floorFl ?hq ?_ ?h3; (case hq => with_reducible assumption); (case h3 => k_dflt exact rfl)))
local macro_rules | `(tactic| walk_at "call builtin:math.ceil") => `(tactic| ((fail_if_success (with_reducible show wpAny _ _ (call _ [(Value.float (Flo.hf _) _)]) _ _ _)); refine' Flo.k_ceilQ ?hq ?_ ?h1 ?h2 ?h3; (case hq => with_reducible assumption); (case h1 => k_dflt decide); (case h2 => k_dflt decide); (case h3 => k_dflt exact rfl); intro _ _ _))
local macro_rules | `(tactic| walk_at "call builtin:round") => `(tactic| ((fail_if_success (with_reducible show wpAny _ _ (call _ [(Value.float (Flo.hf _) _)]) _ _ _)); refine' Flo.k_round ?hq ?_ ?h3; (case hq => with_reducible assumption); (case h3 => k_dflt exact rfl)))
local macro_rules | `(tactic| walk_at "call type:int") => `(tactic| ((with_reducible show wpAny _ _ (call _ [(Value.float (Flo.hf _) _)]) _ _ _); refine' Flo.k_intH ?_ ?h1 ?h2; (case h1 => k_dflt omega); (case h2 => k_dflt omega); intro _ _))
local macro_rules | `(tactic| walk_at "compareOp Lt float int") => `(tactic| ((with_reducible show wpAny _ _ (compareOp _ (Value.float (Flo.hf _) _) (Value.int _ _)) _ _ _); refine' Flo.k_ltfi ?_ ?h1; (case h1 => k_dflt omega)))
local macro_rules | `(tactic| walk_at "compareOp LtE float int") => `(tactic| ((with_reducible show wpAny _ _ (compareOp _ (Value.float (Flo.hf _) _) (Value.int _ _)) _ _ _); refine' Flo.k_lefi ?_ ?h1; (case h1 => k_dflt omega)))
local macro_rules | `(tactic| walk_at "compareOp Gt float int") => `(tactic| ((with_reducible show wpAny _ _ (compareOp _ (Value.float (Flo.hf _) _) (Value.int _ _)) _ _ _); refine' Flo.k_gtfi ?_ ?h1; (case h1 => k_dflt omega)))
local macro_rules | `(tactic| walk_at "compareOp NotEq float float") => `(tactic| ((with_reducible show wpAny _ _ (compareOp _ (Value.float (Flo.hf _) _) (Value.float (Flo.hf _) _)) _ _ _); refine' Flo.k_neff ?_ ?h1 ?h2; (case h1 => k_dflt omega); (case h2 => k_dflt omega)))
local macro_rules | `(tactic| walk_at "compareOp Gt int float") => `(tactic| (refine' Flo.k_gtiF ?hq ?_; (case hq => with_reducible assumption)))
local macro_rules | `(tactic| walk_at "compareOp LtE int float") => `(tactic| (refine' Flo.k_leiF ?hq ?_; (case hq => with_reducible assumption)))
local macro_rules | `(tactic| walk_at "compareOp Lt float int") => `(tactic| ((fail_if_success (with_reducible show wpAny _ _ (compareOp _ (Value.float (Flo.hf _) _) _) _ _ _)); refine' Flo.k_ltFi ?hq ?_; (case hq => with_reducible assumption)))
local macro_rules | `(tactic| walk_at "eval Call") => `(tactic| (k_dflt (refine Call_ ?_)))
local macro_rules | `(tactic| walk_at "execs cons") => `(tactic| (k_here; (with_reducible refine gen_tk ?_); intro _; (with_reducible refine wpAny_execs_cons ?_); (try dsimp only)))
local macro_rules | `(tactic| walk_at "my need") => `(tactic| first | with_reducible exact need_nil | with_reducible assumption | ((repeat (with_reducible refine need_cons ?_)); with_reducible assumption))
local macro_rules | `(tactic| walk_at "my N") => `(tactic| first | k_asm | ((rename News _ _ _ _ => nE'); exact fun p hp => nE' p (by (repeat (first | with_reducible exact hp | with_reducible refine List.mem_cons_of_mem _ ?_)))))
local macro_rules | `(tactic| walk_at "exec While Compare") => `(tactic| (k_here; k_dflt (refine whl_start 100 ?_)))
local macro_rules | `(tactic| walk_at "WhlIf") => `(tactic| (k_dflt (first | (refine WhlIf.yes (decide_eq_true (by omega)) ?_) | (refine WhlIf.no (decide_eq_false (by omega)) ?_))))
local macro_rules | `(tactic| walk_at "call ref") => `(tactic| (k_here; k_dflt (refine' Says.use (c_pyear _ _ _ _ _ _ _ _ (by assumption) (by assumption) (by assumption)) ?k1 ?k2 ?k3 ?k4 ?k5 ?k6 ?k7 ?k8 ?k9 ?_; (case k1 => k_asm); (case k2 => k_asm); (case k3 => k_asm); (case k4 => k_asm); (case k5 => k_asm); (case k6 => first | exact rfl | assumption); (case k7 => walk_at "my need"); (case k8 => ktr_room); (case k9 => ktr_units); k_whole; (intro x9 y9 mo9 t91 t92 h9 tk9 P9 F9 N9 l9; (try k_lt l9)); (obtain ⟨hy9, he9⟩ := P9; subst hy9 he9); (all_goals (try dsimp only)); (all_goals (try k_fold)))))

set_option maxHeartbeats 4000000 in
theorem c_tojd (w : World) (need : Led) (q : Addr) (Ec : Int → Int) (y m d mo : Int) (t1 t2 t3 : Tok) (hE : EqFn w need q Ec) (H : Opens Ec) (hy1 : -41400 < y) (hy2 : y < 41200) (hm1 : 1 ≤ m) (hm2 : m ≤ 12) (hd1 : -1000 < d) (hd2 : d < 1000)
    (hmo : (m ≤ 7 ∧ mo = (m - 1) * 31) ∨ (7 < m ∧ mo = (m - 1) * 30 + 6)) :
    Says w need 101 [.int y t1, .int m t2, .int d t3, .ref q] 16 128 (RetF (2 * (Ec (y + 621) - 1 + mo + d) + 1)) := by
  unfold Says
  k_fill
  intro pg loose mean mg mb news dp un gd cn cs a ccd cl outer A₀ base h₀ L mm s Q E B F X N T hk hn9 hd9 hu9 hret
  obtain ⟨k0, hk0, hor⟩ := guess0_ok H hy1 hy2
  obtain ⟨k1, hk1, ha1, hb1⟩ := guess1_ok H (c := y + 619) (by omega) (by omega)
  obtain ⟨k2, hk2, ha2, hb2⟩ := guess1_ok H (c := y + 620) (by omega) (by omega)
  have hbd : (-20000000 < Ec (y + 619) ∧ Ec (y + 619) < 20000000) ∧ (-20000000 < Ec (y + 620) ∧ Ec (y + 620) < 20000000) ∧ (-20000000 < Ec (y + 621) ∧ Ec (y + 621) < 20000000) := by
    have n1 := H.near1 (y + 619)
    have n2 := H.near2 (y + 619)
    have n3 := H.near1 (y + 620)
    have n4 := H.near2 (y + 620)
    have n5 := H.near1 (y + 621)
    have n6 := H.near2 (y + 621)
    clear hret ha1 hb1 ha2 hb2 hor
    generalize Ec (y + 619) = e1 at *
    generalize Ec (y + 620) = e2 at *
    generalize Ec (y + 621) = e3 at *
    omega
  obtain ⟨⟨b1, b2⟩, ⟨b3, b4⟩, b5, b6⟩ := hbd
  have i1 : InOp Ec _ k1 (y + 619 + 1) := ⟨hk1, by omega, by omega, ha1, hb1⟩
  have i2 : InOp Ec _ k2 (y + 620 + 1) := ⟨hk2, by omega, by omega, ha2, hb2⟩
  rw [show y + 619 + 1 = y + 620 by omega] at i1
  rw [show y + 620 + 1 = y + 621 by omega] at i2
  clear ha1 hb1 ha2 hb2 hk1 hk2
  rcases hor with ⟨hor1, hor2⟩ | ⟨hor1, hor2⟩
  · have i0 : InOp Ec _ k0 (y + 619) := ⟨hk0, by omega, by omega, hor1, by rw [show y + 619 + 1 = y + 620 by omega]; exact hor2⟩
    clear hor1 hor2 hk0
    refine wpAny_call ?_
    k_dflt (refine' code_def (binds := [(Str.ofString "year", .int y t1), (Str.ofString "month", .int m t2), (Str.ofString "day", .int d t3), (Str.ofString "equinox_jd", .ref q)]) ?k1 ?k2 ?k3 ?k4 ?k5 ?kA ?kF ?kK ?k6 ?k7 ?k8 ?k9 ?kB ?_ ?c2 ?c3 ?c4 ?c5; (case kA => exact rfl); (case kF => exact rfl); (case kK => assumption); (case k1 => k_asm); (case k2 => k_asm); (case k3 => k_asm); (case k4 => k_asm); (case k5 => k_asm); (case k6 => k_is); (case k7 => k_is); (case k8 => ktr_room); (case k9 => exact BindsTo.of_eq rfl); (case c5 => decide); (case kB => exact locs rfl); (case c2 => exact rfl); (case c3 => exact rfl); (case c4 => exact rfl); k_whole; intro g' L' h' FG' F' N' B' X' T'; (try dsimp only [List.reverse_cons, List.reverse_nil, List.nil_append, List.cons_append, List.append_nil]); (try k_lift B'); (try k_fold))
    k_steps
    all_goals (first | exact endF hret (by k_asm) (by walk_at "my N") (by omega) | trace_state)
  · have i0 : InOp Ec _ k0 (y + 620) := ⟨hk0, by omega, by omega, hor1, by rw [show y + 620 + 1 = y + 621 by omega]; exact hor2⟩
    clear hor1 hor2 hk0
    refine wpAny_call ?_
    k_dflt (refine' code_def (binds := [(Str.ofString "year", .int y t1), (Str.ofString "month", .int m t2), (Str.ofString "day", .int d t3), (Str.ofString "equinox_jd", .ref q)]) ?k1 ?k2 ?k3 ?k4 ?k5 ?kA ?kF ?kK ?k6 ?k7 ?k8 ?k9 ?kB ?_ ?c2 ?c3 ?c4 ?c5; (case kA => exact rfl); (case kF => exact rfl); (case kK => assumption); (case k1 => k_asm); (case k2 => k_asm); (case k3 => k_asm); (case k4 => k_asm); (case k5 => k_asm); (case k6 => k_is); (case k7 => k_is); (case k8 => ktr_room); (case k9 => exact BindsTo.of_eq rfl); (case c5 => decide); (case kB => exact locs rfl); (case c2 => exact rfl); (case c3 => exact rfl); (case c4 => exact rfl); k_whole; intro g' L' h' FG' F' N' B' X' T'; (try dsimp only [List.reverse_cons, List.reverse_nil, List.nil_append, List.cons_append, List.append_nil]); (try k_lift B'); (try k_fold))
    k_steps
    all_goals (first | exact endF hret (by k_asm) (by walk_at "my N") (by omega) | trace_state)
end Mine

end

section
open PySem PySem.W PyProof.Rows PySem.Spec PySem.Calls
set_option Elab.async false
set_option maxRecDepth 100000
namespace Mine
local macro_rules | `(tactic| walk_at "eval Constant float") => `(tactic| (k_dflt (refine Flo.k_const Flo.half_lit ?_)))
local macro_rules | `(tactic| walk_at "binaryOp Sub float float") => `(tactic| (k_dflt ((fail_if_success (with_reducible show wpAny _ _ (binaryOp _ _ (Value.float (Flo.hf _) _)) _ _ _)); (fail_if_success (with_reducible show wpAny _ _ (binaryOp _ _ (Value.float Flo.TROP _)) _ _ _)); refine Flo.k_subL Flo.epg_lit ?_)))
local macro_rules | `(tactic| walk_at "binaryOp Sub float float") => `(tactic| (k_dflt ((fail_if_success (with_reducible show wpAny _ _ (binaryOp _ _ (Value.float (Flo.hf _) _)) _ _ _)); (fail_if_success (with_reducible show wpAny _ _ (binaryOp _ _ (Value.float Flo.TROP _)) _ _ _)); refine Flo.k_subL Flo.epp_lit ?_)))
local macro_rules | `(tactic| walk_at "binaryOp Sub int float") => `(tactic| (k_dflt ((fail_if_success (with_reducible show wpAny _ _ (binaryOp _ _ (Value.float (Flo.hf _) _)) _ _ _)); (fail_if_success (with_reducible show wpAny _ _ (binaryOp _ _ (Value.float Flo.TROP _)) _ _ _)); refine Flo.k_subL Flo.epp_lit ?_)))
local macro_rules | `(tactic| walk_at "binaryOp Sub float int") => `(tactic| (k_dflt ((fail_if_success (with_reducible show wpAny _ _ (binaryOp _ (Value.float (Flo.hf _) _) _) _ _ _)); (fail_if_success (with_reducible show wpAny _ _ (binaryOp _ (Value.float Flo.TROP _) _) _ _ _)); refine Flo.k_Lsub Flo.epg_lit ?_)))
local macro_rules | `(tactic| walk_at "binaryOp Sub float int") => `(tactic| (k_dflt ((fail_if_success (with_reducible show wpAny _ _ (binaryOp _ (Value.float (Flo.hf _) _) _) _ _ _)); (fail_if_success (with_reducible show wpAny _ _ (binaryOp _ (Value.float Flo.TROP _) _) _ _ _)); refine Flo.k_Lsub Flo.epp_lit ?_)))
local macro_rules | `(tactic| walk_at "binaryOp Mult float int") => `(tactic| (k_dflt ((fail_if_success (with_reducible show wpAny _ _ (binaryOp _ (Value.float (Flo.hf _) _) _) _ _ _)); (fail_if_success (with_reducible show wpAny _ _ (binaryOp _ (Value.float Flo.TROP _) _) _ _ _)); refine Flo.k_Lmul Flo.trop_lit ?_)))
local macro_rules | `(tactic| walk_at "binaryOp Div float float") => `(tactic| (k_dflt ((fail_if_success (with_reducible show wpAny _ _ (binaryOp _ _ (Value.float (Flo.hf _) _)) _ _ _)); (fail_if_success (with_reducible show wpAny _ _ (binaryOp _ _ (Value.float Flo.TROP _)) _ _ _)); refine Flo.k_divL Flo.trop_lit ?_)))
local macro_rules | `(tactic| walk_at "binaryOp Add int float") => `(tactic| (k_dflt ((fail_if_success (with_reducible show wpAny _ _ (binaryOp _ _ (Value.float (Flo.hf _) _)) _ _ _)); (fail_if_success (with_reducible show wpAny _ _ (binaryOp _ _ (Value.float Flo.TROP _)) _ _ _)); refine Flo.k_addL Flo.trop_lit ?_)))
local macro_rules | `(tactic| walk_at "binaryOp Add int bool") => `(tactic| (first | refine' Flo.k_addit ?_ | refine' Flo.k_addif0 ?_))
local macro_rules | `(tactic| walk_at "binaryOp Add float float") => `(tactic| ((with_reducible show wpAny _ _ (binaryOp _ (Value.float (Flo.hf _) _) (Value.float (Flo.hf _) _)) _ _ _); refine' Flo.k_addff ?_ ?a0 ?a1; (case a0 => k_dflt omega); (case a1 => k_dflt omega)))
local macro_rules | `(tactic| walk_at "binaryOp Sub float float") => `(tactic| ((with_reducible show wpAny _ _ (binaryOp _ (Value.float (Flo.hf _) _) (Value.float (Flo.hf _) _)) _ _ _); refine' Flo.k_subff ?_ ?a0 ?a1; (case a0 => k_dflt omega); (case a1 => k_dflt omega)))
local macro_rules | `(tactic| walk_at "binaryOp Add float int") => `(tactic| ((fail_if_success (with_reducible show wpAny _ _ (binaryOp _ (Value.float (Flo.hf _) _) _) _ _ _)); refine' Flo.k_addQi ?_ ?hq ?h1 ?h2 ?h3 ?h4; (case hq => with_reducible assumption); (case h1 => k_dflt decide); (case h2 => k_dflt decide); (case h3 => k_dflt omega); (case h4 => k_dflt omega); intro _ _))
local macro_rules | `(tactic| walk_at "binaryOp Add float int") => `(tactic| ((with_reducible show wpAny _ _ (binaryOp _ (Value.float (Flo.hf _) _) (Value.int _ _)) _ _ _); refine' Flo.k_addfi ?_ ?a ?b; (case a => k_dflt omega); (case b => k_dflt omega)))
local macro_rules | `(tactic| walk_at "binaryOp Add int float") => `(tactic| ((with_reducible show wpAny _ _ (binaryOp _ (Value.int _ _) (Value.float Flo.TROP _)) _ _ _); refine' Flo.k_addiX ?_ ?a0; (case a0 => k_dflt omega)))
local macro_rules | `(tactic| walk_at "binaryOp Add float int") => `(tactic| ((with_reducible show wpAny _ _ (binaryOp _ (Value.float (Float64.add _ _) _) (Value.int _ _)) _ _ _); refine' Flo.k_addXi ?_ ?a0; (case a0 => k_dflt omega)))
local macro_rules | `(tactic| walk_at "binaryOp Add int float") => `(tactic| ((with_reducible show wpAny _ _ (binaryOp _ (Value.int _ _) (Value.float (Flo.hf _) _)) _ _ _); refine' Flo.k_addif ?_ ?a0 ?a1; (case a0 => k_dflt omega); (case a1 => k_dflt omega)))
local macro_rules | `(tactic| walk_at "binaryOp Sub float int") => `(tactic| ((with_reducible show wpAny _ _ (binaryOp _ (Value.float (Flo.hf _) _) (Value.int _ _)) _ _ _); refine' Flo.k_subfi ?_ ?a0 ?a1; (case a0 => k_dflt omega); (case a1 => k_dflt omega)))
local macro_rules | `(tactic| walk_at "binaryOp Sub int float") => `(tactic| ((with_reducible show wpAny _ _ (binaryOp _ (Value.int _ _) (Value.float (Flo.hf _) _)) _ _ _); refine' Flo.k_subif ?_ ?a0 ?a1; (case a0 => k_dflt omega); (case a1 => k_dflt omega)))
local macro_rules | `(tactic| walk_at "binaryOp Mult float int") => `(tactic| ((with_reducible show wpAny _ _ (binaryOp _ (Value.float (Flo.hf _) _) (Value.int _ _)) _ _ _); refine' Flo.k_mulfi ?_ ?a0 ?a1 ?a2 ?a3; (case a0 => k_dflt omega); (case a1 => k_dflt omega); (case a2 => k_dflt decide); (case a3 => k_dflt decide)))
local macro_rules | `(tactic| walk_at "binaryOp Mult float int") => `(tactic| ((with_reducible show wpAny _ _ (binaryOp _ (Value.float Flo.TROP _) (Value.int _ _)) _ _ _); refine' Flo.k_mulT ?_ ?a0; (case a0 => k_dflt omega)))
local macro_rules | `(tactic| walk_at "binaryOp Mod float int") => `(tactic| ((with_reducible show wpAny _ _ (binaryOp _ (Value.float (Flo.hf _) _) (Value.int _ _)) _ _ _); refine' Flo.k_modfi ?_ ?a0 ?a1 ?a2 ?a3; (case a0 => k_dflt omega); (case a1 => k_dflt omega); (case a2 => k_dflt decide); (case a3 => k_dflt decide); intro _ _ _ _ _))
local macro_rules | `(tactic| walk_at "binaryOp Mod float int") => `(tactic| ((with_reducible show wpAny _ _ (binaryOp _ (Value.float (Flo.hf (2 * _)) _) (Value.int _ _)) _ _ _); refine' Flo.k_modfi2 ?_ ?a0 ?a1 ?a2; (case a0 => k_dflt omega); (case a1 => k_dflt decide); (case a2 => k_dflt decide)))
local macro_rules | `(tactic| walk_at "binaryOp Div float int") => `(tactic| ((with_reducible show wpAny _ _ (binaryOp _ (Value.float (Flo.hf _) _) (Value.int _ _)) _ _ _); refine' Flo.k_divfi ?_ ?a0 ?a1 ?a2 ?a3; (case a0 => k_dflt omega); (case a1 => k_dflt omega); (case a2 => k_dflt decide); (case a3 => k_dflt decide); intro _ _ _ _))
local macro_rules | `(tactic| walk_at "binaryOp Div float int") => `(tactic| ((with_reducible show wpAny _ _ (binaryOp _ (Value.float (Flo.hf (2 * _)) _) (Value.int _ _)) _ _ _); refine' Flo.k_divfi2 ?_ ?a0 ?a1 ?a2; (case a0 => k_dflt omega); (case a1 => k_dflt decide); (case a2 => k_dflt decide); intro _ _))
local macro_rules | `(tactic| walk_at "binaryOp Div float float") => `(tactic| ((with_reducible show wpAny _ _ (binaryOp _ (Value.float (Flo.hf _) _) (Value.float Flo.TROP _)) _ _ _); refine Flo.k_divT ?_))
local macro_rules | `(tactic| walk_at "binaryOp Div int int") => `(tactic| (refine' Flo.k_divii ?_ ?a0 ?a1 ?a2; (case a0 => k_dflt omega); (case a1 => k_dflt decide); (case a2 => k_dflt decide); intro _ _))
local macro_rules | `(tactic| walk_at "call builtin:math.floor") => `(tactic| ((with_reducible show wpAny _ _ (call _ [(Value.float (Flo.hf _) _)]) _ _ _); refine' Flo.k_floorH ?_ ?h1 ?h2; (case h1 => k_dflt omega); (case h2 => k_dflt exact rfl); intro _ _ _))
local macro_rules | `(tactic| walk_at "call builtin:math.floor") => `(tactic| ((fail_if_success (with_reducible show wpAny _ _ (call _ [(Value.float (Flo.hf _) _)]) _ _ _)); refine' Flo.k_floorQ ?hq ?_ ?h1 ?h2 ?h3; (case hq => with_reducible assumption); (case h1 => k_dflt decide); (case h2 => k_dflt decide); (case h3 => k_dflt exact rfl); intro _ _ _))
local macro_rules | `(tactic| walk_at "call builtin:math.floor") => `(tactic| ((fail_if_success (with_reducible show wpAny _ _ (call _ [(Value.float (Flo.hf _) _)]) _ _ _)); refine' Flo.k_floorFl ?hq ?_ ?h3; (case hq => with_reducible assumption); (case h3 => k_dflt exact rfl)))
local macro_rules | `(tactic| walk_at "call builtin:math.ceil") => `(tactic| ((fail_if_success (with_reducible show wpAny _ _ (call _ [(Value.float (Flo.hf _) _)]) _ _ _)); refine' Flo.k_ceilQ ?hq ?_ ?h1 ?h2 ?h3; (case hq => with_reducible assumption); (case h1 => k_dflt decide); (case h2 => k_dflt decide); (case h3 => k_dflt exact rfl); intro _ _ _))
local macro_rules | `(tactic| walk_at "call builtin:round") => `(tactic| ((fail_if_success (with_reducible show wpAny _ _ (call _ [(Value.float (Flo.hf _) _)]) _ _ _)); refine' Flo.k_round ?hq ?_ ?h3; (case hq => with_reducible assumption); (case h3 => k_dflt exact rfl)))
local macro_rules | `(tactic| walk_at "call type:int") => `(tactic| ((with_reducible show wpAny _ _ (call _ [(Value.float (Flo.hf _) _)]) _ _ _); refine' Flo.k_intH ?_ ?h1 ?h2; (case h1 => k_dflt omega); (case h2 => k_dflt omega); intro _ _))
local macro_rules | `(tactic| walk_at "compareOp Lt float int") => `(tactic| ((with_reducible show wpAny _ _ (compareOp _ (Value.float (Flo.hf _) _) (Value.int _ _)) _ _ _); refine' Flo.k_ltfi ?_ ?h1; (case h1 => k_dflt omega)))
local macro_rules | `(tactic| walk_at "compareOp LtE float int") => `(tactic| ((with_reducible show wpAny _ _ (compareOp _ (Value.float (Flo.hf _) _) (Value.int _ _)) _ _ _); refine' Flo.k_lefi ?_ ?h1; (case h1 => k_dflt omega)))
local macro_rules | `(tactic| walk_at "compareOp Gt float int") => `(tactic| ((with_reducible show wpAny _ _ (compareOp _ (Value.float (Flo.hf _) _) (Value.int _ _)) _ _ _); refine' Flo.k_gtfi ?_ ?h1; (case h1 => k_dflt omega)))
local macro_rules | `(tactic| walk_at "compareOp NotEq float float") => `(tactic| ((with_reducible show wpAny _ _ (compareOp _ (Value.float (Flo.hf _) _) (Value.float (Flo.hf _) _)) _ _ _); refine' Flo.k_neff ?_ ?h1 ?h2; (case h1 => k_dflt omega); (case h2 => k_dflt omega)))
local macro_rules | `(tactic| walk_at "compareOp Gt int float") => `(tactic| (refine' Flo.k_gtiF ?hq ?_; (case hq => with_reducible assumption)))
local macro_rules | `(tactic| walk_at "compareOp LtE int float") => `(tactic| (refine' Flo.k_leiF ?hq ?_; (case hq => with_reducible assumption)))
local macro_rules | `(tactic| walk_at "compareOp Lt float int") => `(tactic| ((fail_if_success (with_reducible show wpAny _ _ (compareOp _ (Value.float (Flo.hf _) _) _) _ _ _)); refine' Flo.k_ltFi ?hq ?_; (case hq => with_reducible assumption)))
local macro_rules | `(tactic| walk_at "eval Call") => `(tactic| (k_dflt (refine Call_ ?_)))
local macro_rules | `(tactic| walk_at "execs cons") => `(tactic| (k_here; (with_reducible refine gen_tk ?_); intro _; (with_reducible refine wpAny_execs_cons ?_); (try dsimp only)))
local macro_rules | `(tactic| walk_at "my need") => `(tactic| first | with_reducible exact need_nil | with_reducible assumption | ((repeat (with_reducible refine need_cons ?_)); with_reducible assumption))
local macro_rules | `(tactic| walk_at "my N") => `(tactic| first | k_asm | ((rename News _ _ _ _ => nE'); exact fun p hp => nE' p (by (repeat (first | with_reducible exact hp | with_reducible refine List.mem_cons_of_mem _ ?_)))))
local macro_rules | `(tactic| walk_at "call ref") => `(tactic| (k_here; k_dflt (refine' Says.use (c_last' _ _ _ _ _ _ _ _ (by assumption) (by assumption) (by assumption)) ?k1 ?k2 ?k3 ?k4 ?k5 ?k6 ?k7 ?k8 ?k9 ?_; (case k1 => k_asm); (case k2 => k_asm); (case k3 => k_asm); (case k4 => k_asm); (case k5 => k_asm); (case k6 => first | exact rfl | assumption); (case k7 => walk_at "my need"); (case k8 => ktr_room); (case k9 => ktr_units); k_whole; (intro t9 h9 tk9 F9 N9); (all_goals (try dsimp only)); (all_goals (try k_fold)))))
local macro_rules | `(tactic| walk_at "call builtin:math.floor") => `(tactic| (refine' Flo.k_floorFl ?hq ?_ ?h3; (case hq => with_reducible assumption); (case h3 => k_dflt exact rfl)))

/-- the month and the day that yd, the day of the year, is told by -/
def MonthDay (yd m d : Int) : Prop := (yd ≤ 186 ∧ 31 * (m - 1) < yd ∧ yd ≤ 31 * m ∧ d = yd - 31 * (m - 1)) ∨ (186 < yd ∧ 30 * (m - 1) + 6 < yd ∧ yd ≤ 30 * m + 6 ∧ d = yd - 30 * (m - 1) - 6)

set_option maxHeartbeats 4000000 in
theorem c_fromjd (w : World) (need : Led) (q : Addr) (Ec : Int → Int) (D c : Int) (t : Tok) (hE : EqFn w need q Ec) (H : Opens Ec) (hc1 : -40900 < c) (hc2 : c < 41900) (h1 : Ec c < D) (h2 : D ≤ Ec (c + 1)) :
    Says w need 108 [.float (Flo.hf (2 * D - 1)) t, .ref q] 14 112 (RetT3 fun y m d => y = c - 621 ∧ MonthDay (D - Ec c) m d) := by
  unfold Says
  k_fill
  intro pg loose mean mg mb news dp un gd cn cs a ccd cl outer A₀ base h₀ L mm s Q E B F X N T hk hn9 hd9 hu9 hret
  have hround := round_ok H hc1 hc2
  have hb : -20000000 < Ec c ∧ Ec c < 20000000 := by
    have n1 := H.near1 c
    have n2 := H.near2 c
    clear hret h1 h2
    generalize Ec c = e1 at *
    omega
  have hlen := H.hi c
  have hD : -20000000 < D ∧ D < 20001000 := by omega
  have hfl : Flo.FlIs (Flo.hf (2 * D - 1)) (D - 1) := by
    have := Flo.flIs_hf (a := 2 * D - 1) (by omega)
    rwa [show (2 * D - 1) / 2 = D - 1 by omega] at this
  have hin : InOp Ec (Flo.hf (2 * (D - 1) + 1)) (D - 1) c := by
    refine ⟨?_, hc1, hc2, by omega, by omega⟩
    have := Flo.flIs_hf (a := 2 * (D - 1) + 1) (by omega)
    rwa [show (2 * (D - 1) + 1) / 2 = D - 1 by omega] at this
  refine wpAny_call ?_
  k_dflt (refine' code_def (binds := [(Str.ofString "jd", .float (Flo.hf (2 * D - 1)) t), (Str.ofString "equinox_jd", .ref q)]) ?k1 ?k2 ?k3 ?k4 ?k5 ?kA ?kF ?kK ?k6 ?k7 ?k8 ?k9 ?kB ?_ ?c2 ?c3 ?c4 ?c5; (case kA => exact rfl); (case kF => exact rfl); (case kK => assumption); (case k1 => k_asm); (case k2 => k_asm); (case k3 => k_asm); (case k4 => k_asm); (case k5 => k_asm); (case k6 => k_is); (case k7 => k_is); (case k8 => ktr_room); (case k9 => exact BindsTo.of_eq rfl); (case c5 => decide); (case kB => exact locs rfl); (case c2 => exact rfl); (case c3 => exact rfl); (case c4 => exact rfl); k_whole; intro g' L' h' FG' F' N' B' X' T'; (try dsimp only [List.reverse_cons, List.reverse_nil, List.nil_append, List.cons_append, List.append_nil]); (try k_lift B'); (try k_fold))
  k_steps
  all_goals (first | exact endT3 hret (by k_asm) (by walk_at "my N") (by assumption) ⟨by omega, by unfold MonthDay; omega⟩ | trace_state)

end Mine

end

section
open PySem PySem.W PyProof.Rows PySem.Spec PySem.Calls
set_option Elab.async false
set_option maxRecDepth 100000
namespace Mine
local macro_rules | `(tactic| walk_at "my pad") => `(tactic| skip)
local macro_rules | `(tactic| walk_at "eval Constant float") => `(tactic| (k_dflt (refine Flo.k_const Flo.half_lit ?_)))
local macro_rules | `(tactic| walk_at "binaryOp Sub float float") => `(tactic| (k_dflt ((fail_if_success (with_reducible show wpAny _ _ (binaryOp _ _ (Value.float (Flo.hf _) _)) _ _ _)); (fail_if_success (with_reducible show wpAny _ _ (binaryOp _ _ (Value.float Flo.TROP _)) _ _ _)); refine Flo.k_subL Flo.epg_lit ?_)))
local macro_rules | `(tactic| walk_at "binaryOp Sub float float") => `(tactic| (k_dflt ((fail_if_success (with_reducible show wpAny _ _ (binaryOp _ _ (Value.float (Flo.hf _) _)) _ _ _)); (fail_if_success (with_reducible show wpAny _ _ (binaryOp _ _ (Value.float Flo.TROP _)) _ _ _)); refine Flo.k_subL Flo.epp_lit ?_)))
local macro_rules | `(tactic| walk_at "binaryOp Sub int float") => `(tactic| (k_dflt ((fail_if_success (with_reducible show wpAny _ _ (binaryOp _ _ (Value.float (Flo.hf _) _)) _ _ _)); (fail_if_success (with_reducible show wpAny _ _ (binaryOp _ _ (Value.float Flo.TROP _)) _ _ _)); refine Flo.k_subL Flo.epp_lit ?_)))
local macro_rules | `(tactic| walk_at "binaryOp Sub float int") => `(tactic| (k_dflt ((fail_if_success (with_reducible show wpAny _ _ (binaryOp _ (Value.float (Flo.hf _) _) _) _ _ _)); (fail_if_success (with_reducible show wpAny _ _ (binaryOp _ (Value.float Flo.TROP _) _) _ _ _)); refine Flo.k_Lsub Flo.epg_lit ?_)))
local macro_rules | `(tactic| walk_at "binaryOp Sub float int") => `(tactic| (k_dflt ((fail_if_success (with_reducible show wpAny _ _ (binaryOp _ (Value.float (Flo.hf _) _) _) _ _ _)); (fail_if_success (with_reducible show wpAny _ _ (binaryOp _ (Value.float Flo.TROP _) _) _ _ _)); refine Flo.k_Lsub Flo.epp_lit ?_)))
local macro_rules | `(tactic| walk_at "binaryOp Mult float int") => `(tactic| (k_dflt ((fail_if_success (with_reducible show wpAny _ _ (binaryOp _ (Value.float (Flo.hf _) _) _) _ _ _)); (fail_if_success (with_reducible show wpAny _ _ (binaryOp _ (Value.float Flo.TROP _) _) _ _ _)); refine Flo.k_Lmul Flo.trop_lit ?_)))
local macro_rules | `(tactic| walk_at "binaryOp Div float float") => `(tactic| (k_dflt ((fail_if_success (with_reducible show wpAny _ _ (binaryOp _ _ (Value.float (Flo.hf _) _)) _ _ _)); (fail_if_success (with_reducible show wpAny _ _ (binaryOp _ _ (Value.float Flo.TROP _)) _ _ _)); refine Flo.k_divL Flo.trop_lit ?_)))
local macro_rules | `(tactic| walk_at "binaryOp Add int float") => `(tactic| (k_dflt ((fail_if_success (with_reducible show wpAny _ _ (binaryOp _ _ (Value.float (Flo.hf _) _)) _ _ _)); (fail_if_success (with_reducible show wpAny _ _ (binaryOp _ _ (Value.float Flo.TROP _)) _ _ _)); refine Flo.k_addL Flo.trop_lit ?_)))
local macro_rules | `(tactic| walk_at "binaryOp Add int bool") => `(tactic| (first | refine' Flo.k_addit ?_ | refine' Flo.k_addif0 ?_))
local macro_rules | `(tactic| walk_at "binaryOp Add float float") => `(tactic| ((with_reducible show wpAny _ _ (binaryOp _ (Value.float (Flo.hf _) _) (Value.float (Flo.hf _) _)) _ _ _); refine' Flo.k_addff ?_ ?a0 ?a1; (case a0 => k_dflt omega); (case a1 => k_dflt omega)))
local macro_rules | `(tactic| walk_at "binaryOp Sub float float") => `(tactic| ((with_reducible show wpAny _ _ (binaryOp _ (Value.float (Flo.hf _) _) (Value.float (Flo.hf _) _)) _ _ _); refine' Flo.k_subff ?_ ?a0 ?a1; (case a0 => k_dflt omega); (case a1 => k_dflt omega)))
local macro_rules | `(tactic| walk_at "binaryOp Add float int") => `(tactic| ((fail_if_success (with_reducible show wpAny _ _ (binaryOp _ (Value.float (Flo.hf _) _) _) _ _ _)); refine' Flo.k_addQi ?_ ?hq ?h1 ?h2 ?h3 ?h4; (case hq => with_reducible assumption); (case h1 => k_dflt decide); (case h2 => k_dflt decide); (case h3 => k_dflt omega); (case h4 => k_dflt omega); intro _ _))
local macro_rules | `(tactic| walk_at "binaryOp Add float int") => `(tactic| ((with_reducible show wpAny _ _ (binaryOp _ (Value.float (Flo.hf _) _) (Value.int _ _)) _ _ _); refine' Flo.k_addfi ?_ ?a ?b; (case a => k_dflt omega); (case b => k_dflt omega)))
local macro_rules | `(tactic| walk_at "binaryOp Add int float") => `(tactic| ((with_reducible show wpAny _ _ (binaryOp _ (Value.int _ _) (Value.float Flo.TROP _)) _ _ _); refine' Flo.k_addiX ?_ ?a0; (case a0 => k_dflt omega)))
local macro_rules | `(tactic| walk_at "binaryOp Add float int") => `(tactic| ((with_reducible show wpAny _ _ (binaryOp _ (Value.float (Float64.add _ _) _) (Value.int _ _)) _ _ _); refine' Flo.k_addXi ?_ ?a0; (case a0 => k_dflt omega)))
local macro_rules | `(tactic| walk_at "binaryOp Add int float") => `(tactic| ((with_reducible show wpAny _ _ (binaryOp _ (Value.int _ _) (Value.float (Flo.hf _) _)) _ _ _); refine' Flo.k_addif ?_ ?a0 ?a1; (case a0 => k_dflt omega); (case a1 => k_dflt omega)))
local macro_rules | `(tactic| walk_at "binaryOp Sub float int") => `(tactic| ((with_reducible show wpAny _ _ (binaryOp _ (Value.float (Flo.hf _) _) (Value.int _ _)) _ _ _); refine' Flo.k_subfi ?_ ?a0 ?a1; (case a0 => k_dflt omega); (case a1 => k_dflt omega)))
local macro_rules | `(tactic| walk_at "binaryOp Sub int float") => `(tactic| ((with_reducible show wpAny _ _ (binaryOp _ (Value.int _ _) (Value.float (Flo.hf _) _)) _ _ _); refine' Flo.k_subif ?_ ?a0 ?a1; (case a0 => k_dflt omega); (case a1 => k_dflt omega)))
local macro_rules | `(tactic| walk_at "binaryOp Mult float int") => `(tactic| ((with_reducible show wpAny _ _ (binaryOp _ (Value.float (Flo.hf _) _) (Value.int _ _)) _ _ _); refine' Flo.k_mulfi ?_ ?a0 ?a1 ?a2 ?a3; (case a0 => k_dflt omega); (case a1 => k_dflt omega); (case a2 => k_dflt decide); (case a3 => k_dflt decide)))
local macro_rules | `(tactic| walk_at "binaryOp Mult float int") => `(tactic| ((with_reducible show wpAny _ _ (binaryOp _ (Value.float Flo.TROP _) (Value.int _ _)) _ _ _); refine' Flo.k_mulT ?_ ?a0; (case a0 => k_dflt omega)))
local macro_rules | `(tactic| walk_at "binaryOp Mod float int") => `(tactic| ((with_reducible show wpAny _ _ (binaryOp _ (Value.float (Flo.hf _) _) (Value.int _ _)) _ _ _); refine' Flo.k_modfi ?_ ?a0 ?a1 ?a2 ?a3; (case a0 => k_dflt omega); (case a1 => k_dflt omega); (case a2 => k_dflt decide); (case a3 => k_dflt decide); intro _ _ _ _ _))
local macro_rules | `(tactic| walk_at "binaryOp Mod float int") => `(tactic| ((with_reducible show wpAny _ _ (binaryOp _ (Value.float (Flo.hf (2 * _)) _) (Value.int _ _)) _ _ _); refine' Flo.k_modfi2 ?_ ?a0 ?a1 ?a2; (case a0 => k_dflt omega); (case a1 => k_dflt decide); (case a2 => k_dflt decide)))
local macro_rules | `(tactic| walk_at "binaryOp Div float int") => `(tactic| ((with_reducible show wpAny _ _ (binaryOp _ (Value.float (Flo.hf _) _) (Value.int _ _)) _ _ _); refine' Flo.k_divfi ?_ ?a0 ?a1 ?a2 ?a3; (case a0 => k_dflt omega); (case a1 => k_dflt omega); (case a2 => k_dflt decide); (case a3 => k_dflt decide); intro _ _ _ _))
local macro_rules | `(tactic| walk_at "binaryOp Div float int") => `(tactic| ((with_reducible show wpAny _ _ (binaryOp _ (Value.float (Flo.hf (2 * _)) _) (Value.int _ _)) _ _ _); refine' Flo.k_divfi2 ?_ ?a0 ?a1 ?a2; (case a0 => k_dflt omega); (case a1 => k_dflt decide); (case a2 => k_dflt decide); intro _ _))
local macro_rules | `(tactic| walk_at "binaryOp Div float float") => `(tactic| ((with_reducible show wpAny _ _ (binaryOp _ (Value.float (Flo.hf _) _) (Value.float Flo.TROP _)) _ _ _); refine Flo.k_divT ?_))
local macro_rules | `(tactic| walk_at "binaryOp Div int int") => `(tactic| (refine' Flo.k_divii ?_ ?a0 ?a1 ?a2; (case a0 => k_dflt omega); (case a1 => k_dflt decide); (case a2 => k_dflt decide); intro _ _))
local macro_rules | `(tactic| walk_at "call builtin:math.floor") => `(tactic| ((with_reducible show wpAny _ _ (call _ [(Value.float (Flo.hf _) _)]) _ _ _); refine' Flo.k_floorH ?_ ?h1 ?h2; (case h1 => k_dflt omega); (case h2 => k_dflt exact rfl); intro _ _ _))
local macro_rules | `(tactic| walk_at "call builtin:math.floor") => `(tactic| ((fail_if_success (with_reducible show wpAny _ _ (call _ [(Value.float (Flo.hf _) _)]) _ _ _)); refine' Flo.k_floorQ ?hq ?_ ?h1 ?h2 ?h3; (case hq => with_reducible assumption); (case h1 => k_dflt decide); (case h2 => k_dflt decide); (case h3 => k_dflt exact rfl); intro _ _ _))
local macro_rules | `(tactic| walk_at "call builtin:math.floor") => `(tactic| ((fail_if_success (with_reducible show wpAny _ _ (call _ [(Value.float (Flo.hf _) _)]) _ _ _)); refine' Flo.k_floorFl ?hq ?_ ?h3; (case hq => with_reducible assumption); (case h3 => k_dflt exact rfl)))
local macro_rules | `(tactic| walk_at "call builtin:math.ceil") => `(tactic| ((fail_if_success (with_reducible show wpAny _ _ (call _ [(Value.float (Flo.hf _) _)]) _ _ _)); refine' Flo.k_ceilQ ?hq ?_ ?h1 ?h2 ?h3; (case hq => with_reducible assumption); (case h1 => k_dflt decide); (case h2 => k_dflt decide); (case h3 => k_dflt exact rfl); intro _ _ _))
local macro_rules | `(tactic| walk_at "call builtin:round") => `(tactic| ((fail_if_success (with_reducible show wpAny _ _ (call _ [(Value.float (Flo.hf _) _)]) _ _ _)); refine' Flo.k_round ?hq ?_ ?h3; (case hq => with_reducible assumption); (case h3 => k_dflt exact rfl)))
local macro_rules | `(tactic| walk_at "call type:int") => `(tactic| ((with_reducible show wpAny _ _ (call _ [(Value.float (Flo.hf _) _)]) _ _ _); refine' Flo.k_intH ?_ ?h1 ?h2; (case h1 => k_dflt omega); (case h2 => k_dflt omega); intro _ _))
local macro_rules | `(tactic| walk_at "compareOp Lt float int") => `(tactic| ((with_reducible show wpAny _ _ (compareOp _ (Value.float (Flo.hf _) _) (Value.int _ _)) _ _ _); refine' Flo.k_ltfi ?_ ?h1; (case h1 => k_dflt omega)))
local macro_rules | `(tactic| walk_at "compareOp LtE float int") => `(tactic| ((with_reducible show wpAny _ _ (compareOp _ (Value.float (Flo.hf _) _) (Value.int _ _)) _ _ _); refine' Flo.k_lefi ?_ ?h1; (case h1 => k_dflt omega)))
local macro_rules | `(tactic| walk_at "compareOp Gt float int") => `(tactic| ((with_reducible show wpAny _ _ (compareOp _ (Value.float (Flo.hf _) _) (Value.int _ _)) _ _ _); refine' Flo.k_gtfi ?_ ?h1; (case h1 => k_dflt omega)))
local macro_rules | `(tactic| walk_at "compareOp NotEq float float") => `(tactic| ((with_reducible show wpAny _ _ (compareOp _ (Value.float (Flo.hf _) _) (Value.float (Flo.hf _) _)) _ _ _); refine' Flo.k_neff ?_ ?h1 ?h2; (case h1 => k_dflt omega); (case h2 => k_dflt omega)))
local macro_rules | `(tactic| walk_at "compareOp Gt int float") => `(tactic| (refine' Flo.k_gtiF ?hq ?_; (case hq => with_reducible assumption)))
local macro_rules | `(tactic| walk_at "compareOp LtE int float") => `(tactic| (refine' Flo.k_leiF ?hq ?_; (case hq => with_reducible assumption)))
local macro_rules | `(tactic| walk_at "compareOp Lt float int") => `(tactic| ((fail_if_success (with_reducible show wpAny _ _ (compareOp _ (Value.float (Flo.hf _) _) _) _ _ _)); refine' Flo.k_ltFi ?hq ?_; (case hq => with_reducible assumption)))
local macro_rules | `(tactic| walk_at "eval Call") => `(tactic| (k_dflt (refine Call_ ?_)))
local macro_rules | `(tactic| walk_at "execs cons") => `(tactic| (k_here; (with_reducible refine gen_tk ?_); intro _; (with_reducible refine wpAny_execs_cons ?_); (try dsimp only)))
local macro_rules | `(tactic| walk_at "my need") => `(tactic| first | with_reducible exact need_nil | with_reducible assumption | ((repeat (with_reducible refine need_cons ?_)); with_reducible assumption))
local macro_rules | `(tactic| walk_at "my N") => `(tactic| first | k_asm | ((rename News _ _ _ _ => nE'); exact fun p hp => nE' p (by (repeat (first | with_reducible exact hp | with_reducible refine List.mem_cons_of_mem _ ?_)))))
local macro_rules | `(tactic| walk_at "compareOp In int ref") => `(tactic| (k_here; k_dflt (first
  | (refine' k_inTup ?F ?X ?l ?i any_30g ?_; (case F => k_asm); (case X => k_asm); (case l => k_is); (case i => repeat constructor); k_whole)
  | (refine' k_inTup ?F ?X ?l ?i any_31p ?_; (case F => k_asm); (case X => k_asm); (case l => k_is); (case i => repeat constructor); k_whole)
  | (refine' k_inTup ?F ?X ?l ?i any_30p ?_; (case F => k_asm); (case X => k_asm); (case l => k_is); (case i => repeat constructor); k_whole))))
local macro_rules | `(tactic| walk_at "call ref") => `(tactic| (k_here; k_dflt (refine' Says.use (c_tojd _ _ _ _ _ _ _ 0 _ _ _ (by assumption) (by assumption) ?s1 ?s2 ?s3 ?s4 ?s5 ?s6 ?s7) ?k1 ?k2 ?k3 ?k4 ?k5 ?k6 ?k7 ?k8 ?k9 ?_; (case k1 => k_asm); (case k2 => k_asm); (case k3 => k_asm); (case k4 => k_asm); (case k5 => k_asm); (case k6 => first | exact rfl | assumption); (case k7 => walk_at "my need"); (case s1 => first | assumption | omega | decide | exact one_le_ml _ _ | ((try dsimp only); omega)); (case s2 => first | assumption | omega | decide | exact one_le_ml _ _ | ((try dsimp only); omega)); (case s3 => first | assumption | omega | decide | exact one_le_ml _ _ | ((try dsimp only); omega)); (case s4 => first | assumption | omega | decide | exact one_le_ml _ _ | ((try dsimp only); omega)); (case s5 => first | assumption | omega | decide | exact one_le_ml _ _ | ((try dsimp only); omega)); (case s6 => first | assumption | omega | decide | exact one_le_ml _ _ | ((try dsimp only); omega)); (case s7 => first | assumption | omega | decide | exact one_le_ml _ _ | ((try dsimp only); omega)); (case k8 => ktr_room); (case k9 => ktr_units); k_whole; (intro t9 h9 tk9 F9 N9); (all_goals (try dsimp only)); (all_goals (try k_fold)))))

set_option maxHeartbeats 4000000 in
theorem c_leap (w : World) (need : Led) (q : Addr) (Ec : Int → Int) (y : Int) (t : Tok) (b : Bool) (hE : EqFn w need q Ec) (H : Opens Ec) (hy1 : -41400 < y) (hy2 : y < 41100) (hb : decide (365 < Ec (y + 622) - Ec (y + 621)) = b) :
    Says w need 80 [.int y t, .ref q] 18 144 (RetB b) := by
  unfold Says
  k_fill
  intro pg loose mean mg mb news dp un gd cn cs a ccd cl outer A₀ base h₀ L mm s Q E B F X N T hk hn9 hd9 hu9 hret
  have e9 : Ec (y + 1 + 621) = Ec (y + 622) := by rw [show y + 1 + 621 = y + 622 by omega]
  have hbd : (-20000000 < Ec (y + 621) ∧ Ec (y + 621) < 20000000) ∧ (-20000000 < Ec (y + 622) ∧ Ec (y + 622) < 20000000) := by
    have n3 := H.near1 (y + 621)
    have n4 := H.near2 (y + 621)
    have n5 := H.near1 (y + 622)
    have n6 := H.near2 (y + 622)
    clear hret hb e9
    generalize Ec (y + 621) = e2 at *
    generalize Ec (y + 622) = e3 at *
    omega
  obtain ⟨⟨b1, b2⟩, b3, b4⟩ := hbd
  refine wpAny_call ?_
  k_dflt (refine' code_def (binds := [(Str.ofString "year", .int y t), (Str.ofString "equinox_jd", .ref q)]) ?k1 ?k2 ?k3 ?k4 ?k5 ?kA ?kF ?kK ?k6 ?k7 ?k8 ?k9 ?kB ?_ ?c2 ?c3 ?c4 ?c5; (case kA => exact rfl); (case kF => exact rfl); (case kK => assumption); (case k1 => k_asm); (case k2 => k_asm); (case k3 => k_asm); (case k4 => k_asm); (case k5 => k_asm); (case k6 => k_is); (case k7 => k_is); (case k8 => ktr_room); (case k9 => exact BindsTo.of_eq rfl); (case c5 => decide); (case kB => exact locs rfl); (case c2 => exact rfl); (case c3 => exact rfl); (case c4 => exact rfl); k_whole; intro g' L' h' FG' F' N' B' X' T'; (try dsimp only [List.reverse_cons, List.reverse_nil, List.nil_append, List.cons_append, List.append_nil]); (try k_lift B'); (try k_fold))
  k_steps
  all_goals (first | exact endB hret (by k_asm) (by walk_at "my N") (by rw [← hb]; exact decide_eq_decide.mpr (by omega)) | trace_state)

local macro_rules | `(tactic| walk_at "call ref") => `(tactic| (k_here; k_dflt (refine' Says.use (c_leap _ _ _ _ _ _ _ (by assumption) (by assumption) ?s1 ?s2 rfl) ?k1 ?k2 ?k3 ?k4 ?k5 ?k6 ?k7 ?k8 ?k9 ?_; (case k1 => k_asm); (case k2 => k_asm); (case k3 => k_asm); (case k4 => k_asm); (case k5 => k_asm); (case k6 => first | exact rfl | assumption); (case k7 => walk_at "my need"); (case s1 => first | assumption | omega | decide | exact one_le_ml _ _ | ((try dsimp only); omega)); (case s2 => first | assumption | omega | decide | exact one_le_ml _ _ | ((try dsimp only); omega)); (case k8 => ktr_room); (case k9 => ktr_units); k_whole; (intro h9 tk9 F9 N9); (all_goals (try dsimp only)); (all_goals (try k_fold)))))

set_option maxHeartbeats 4000000 in
theorem c_mlen (w : World) (need : Led) (q : Addr) (Ec : Int → Int) (y m v : Int) (t1 t2 : Tok) (hE : EqFn w need q Ec) (H : Opens Ec) (hy1 : -41400 < y) (hy2 : y < 41100) (hm1 : 1 ≤ m) (hm2 : m ≤ 12)
    (hv : (m ≤ 6 ∧ v = 31) ∨ (7 ≤ m ∧ m ≤ 11 ∧ v = 30) ∨ (m = 12 ∧ v = Ec (y + 622) - Ec (y + 621) - 336)) :
    Says w need 129 [.int y t1, .int m t2, .ref q] 20 160 (RetI v) := by
  unfold Says
  k_fill
  intro pg loose mean mg mb news dp un gd cn cs a ccd cl outer A₀ base h₀ L mm s Q E B F X N T hk hn9 hd9 hu9 hret
  have hlo := H.lo (y + 621)
  have hhi := H.hi (y + 621)
  rw [show y + 621 + 1 = y + 622 by omega] at hlo hhi
  refine wpAny_call ?_
  k_dflt (refine' code_def (binds := [(Str.ofString "year", .int y t1), (Str.ofString "month", .int m t2), (Str.ofString "equinox_jd", .ref q)]) ?k1 ?k2 ?k3 ?k4 ?k5 ?kA ?kF ?kK ?k6 ?k7 ?k8 ?k9 ?kB ?_ ?c2 ?c3 ?c4 ?c5; (case kA => exact rfl); (case kF => exact rfl); (case kK => assumption); (case k1 => k_asm); (case k2 => k_asm); (case k3 => k_asm); (case k4 => k_asm); (case k5 => k_asm); (case k6 => k_is); (case k7 => k_is); (case k8 => ktr_room); (case k9 => exact BindsTo.of_eq rfl); (case c5 => decide); (case kB => exact locs rfl); (case c2 => exact rfl); (case c3 => exact rfl); (case c4 => exact rfl); k_whole; intro g' L' h' FG' F' N' B' X' T'; (try dsimp only [List.reverse_cons, List.reverse_nil, List.nil_append, List.cons_append, List.append_nil]); (try k_lift B'); (try k_fold))
  k_steps
  all_goals (first | exact endI hret (by k_asm) (by walk_at "my N") (by simp only [decide_eq_true_eq, decide_eq_false_iff_not] at *; omega) | trace_state)
end Mine

end

section
open PySem PySem.W PyProof.Rows PySem.Spec PySem.Calls
set_option Elab.async false
set_option maxRecDepth 100000
namespace Mine
local macro_rules | `(tactic| walk_at "eval Constant float") => `(tactic| (k_dflt (refine Flo.k_const Flo.half_lit ?_)))
local macro_rules | `(tactic| walk_at "binaryOp Sub float float") => `(tactic| (k_dflt ((fail_if_success (with_reducible show wpAny _ _ (binaryOp _ _ (Value.float (Flo.hf _) _)) _ _ _)); (fail_if_success (with_reducible show wpAny _ _ (binaryOp _ _ (Value.float Flo.TROP _)) _ _ _)); refine Flo.k_subL Flo.epg_lit ?_)))
local macro_rules | `(tactic| walk_at "binaryOp Sub float float") => `(tactic| (k_dflt ((fail_if_success (with_reducible show wpAny _ _ (binaryOp _ _ (Value.float (Flo.hf _) _)) _ _ _)); (fail_if_success (with_reducible show wpAny _ _ (binaryOp _ _ (Value.float Flo.TROP _)) _ _ _)); refine Flo.k_subL Flo.epp_lit ?_)))
local macro_rules | `(tactic| walk_at "binaryOp Sub int float") => `(tactic| (k_dflt ((fail_if_success (with_reducible show wpAny _ _ (binaryOp _ _ (Value.float (Flo.hf _) _)) _ _ _)); (fail_if_success (with_reducible show wpAny _ _ (binaryOp _ _ (Value.float Flo.TROP _)) _ _ _)); refine Flo.k_subL Flo.epp_lit ?_)))
local macro_rules | `(tactic| walk_at "binaryOp Sub float int") => `(tactic| (k_dflt ((fail_if_success (with_reducible show wpAny _ _ (binaryOp _ (Value.float (Flo.hf _) _) _) _ _ _)); (fail_if_success (with_reducible show wpAny _ _ (binaryOp _ (Value.float Flo.TROP _) _) _ _ _)); refine Flo.k_Lsub Flo.epg_lit ?_)))
local macro_rules | `(tactic| walk_at "binaryOp Sub float int") => `(tactic| (k_dflt ((fail_if_success (with_reducible show wpAny _ _ (binaryOp _ (Value.float (Flo.hf _) _) _) _ _ _)); (fail_if_success (with_reducible show wpAny _ _ (binaryOp _ (Value.float Flo.TROP _) _) _ _ _)); refine Flo.k_Lsub Flo.epp_lit ?_)))
local macro_rules | `(tactic| walk_at "binaryOp Mult float int") => `(tactic| (k_dflt ((fail_if_success (with_reducible show wpAny _ _ (binaryOp _ (Value.float (Flo.hf _) _) _) _ _ _)); (fail_if_success (with_reducible show wpAny _ _ (binaryOp _ (Value.float Flo.TROP _) _) _ _ _)); refine Flo.k_Lmul Flo.trop_lit ?_)))
local macro_rules | `(tactic| walk_at "binaryOp Div float float") => `(tactic| (k_dflt ((fail_if_success (with_reducible show wpAny _ _ (binaryOp _ _ (Value.float (Flo.hf _) _)) _ _ _)); (fail_if_success (with_reducible show wpAny _ _ (binaryOp _ _ (Value.float Flo.TROP _)) _ _ _)); refine Flo.k_divL Flo.trop_lit ?_)))
local macro_rules | `(tactic| walk_at "binaryOp Add int float") => `(tactic| (k_dflt ((fail_if_success (with_reducible show wpAny _ _ (binaryOp _ _ (Value.float (Flo.hf _) _)) _ _ _)); (fail_if_success (with_reducible show wpAny _ _ (binaryOp _ _ (Value.float Flo.TROP _)) _ _ _)); refine Flo.k_addL Flo.trop_lit ?_)))
local macro_rules | `(tactic| walk_at "binaryOp Add int bool") => `(tactic| (first | refine' Flo.k_addit ?_ | refine' Flo.k_addif0 ?_))
local macro_rules | `(tactic| walk_at "binaryOp Add float float") => `(tactic| ((with_reducible show wpAny _ _ (binaryOp _ (Value.float (Flo.hf _) _) (Value.float (Flo.hf _) _)) _ _ _); refine' Flo.k_addff ?_ ?a0 ?a1; (case a0 => k_dflt omega); (case a1 => k_dflt omega)))
local macro_rules | `(tactic| walk_at "binaryOp Sub float float") => `(tactic| ((with_reducible show wpAny _ _ (binaryOp _ (Value.float (Flo.hf _) _) (Value.float (Flo.hf _) _)) _ _ _); refine' Flo.k_subff ?_ ?a0 ?a1; (case a0 => k_dflt omega); (case a1 => k_dflt omega)))
local macro_rules | `(tactic| walk_at "binaryOp Add float int") => `(tactic| ((fail_if_success (with_reducible show wpAny _ _ (binaryOp _ (Value.float (Flo.hf _) _) _) _ _ _)); refine' Flo.k_addQi ?_ ?hq ?h1 ?h2 ?h3 ?h4; (case hq => with_reducible assumption); (case h1 => k_dflt decide); (case h2 => k_dflt decide); (case h3 => k_dflt omega); (case h4 => k_dflt omega); intro _ _))
local macro_rules | `(tactic| walk_at "binaryOp Add float int") => `(tactic| ((with_reducible show wpAny _ _ (binaryOp _ (Value.float (Flo.hf _) _) (Value.int _ _)) _ _ _); refine' Flo.k_addfi ?_ ?a ?b; (case a => k_dflt omega); (case b => k_dflt omega)))
local macro_rules | `(tactic| walk_at "binaryOp Add int float") => `(tactic| ((with_reducible show wpAny _ _ (binaryOp _ (Value.int _ _) (Value.float Flo.TROP _)) _ _ _); refine' Flo.k_addiX ?_ ?a0; (case a0 => k_dflt omega)))
local macro_rules | `(tactic| walk_at "binaryOp Add float int") => `(tactic| ((with_reducible show wpAny _ _ (binaryOp _ (Value.float (Float64.add _ _) _) (Value.int _ _)) _ _ _); refine' Flo.k_addXi ?_ ?a0; (case a0 => k_dflt omega)))
local macro_rules | `(tactic| walk_at "binaryOp Add int float") => `(tactic| ((with_reducible show wpAny _ _ (binaryOp _ (Value.int _ _) (Value.float (Flo.hf _) _)) _ _ _); refine' Flo.k_addif ?_ ?a0 ?a1; (case a0 => k_dflt omega); (case a1 => k_dflt omega)))
local macro_rules | `(tactic| walk_at "binaryOp Sub float int") => `(tactic| ((with_reducible show wpAny _ _ (binaryOp _ (Value.float (Flo.hf _) _) (Value.int _ _)) _ _ _); refine' Flo.k_subfi ?_ ?a0 ?a1; (case a0 => k_dflt omega); (case a1 => k_dflt omega)))
local macro_rules | `(tactic| walk_at "binaryOp Sub int float") => `(tactic| ((with_reducible show wpAny _ _ (binaryOp _ (Value.int _ _) (Value.float (Flo.hf _) _)) _ _ _); refine' Flo.k_subif ?_ ?a0 ?a1; (case a0 => k_dflt omega); (case a1 => k_dflt omega)))
local macro_rules | `(tactic| walk_at "binaryOp Mult float int") => `(tactic| ((with_reducible show wpAny _ _ (binaryOp _ (Value.float (Flo.hf _) _) (Value.int _ _)) _ _ _); refine' Flo.k_mulfi ?_ ?a0 ?a1 ?a2 ?a3; (case a0 => k_dflt omega); (case a1 => k_dflt omega); (case a2 => k_dflt decide); (case a3 => k_dflt decide)))
local macro_rules | `(tactic| walk_at "binaryOp Mult float int") => `(tactic| ((with_reducible show wpAny _ _ (binaryOp _ (Value.float Flo.TROP _) (Value.int _ _)) _ _ _); refine' Flo.k_mulT ?_ ?a0; (case a0 => k_dflt omega)))
local macro_rules | `(tactic| walk_at "binaryOp Mod float int") => `(tactic| ((with_reducible show wpAny _ _ (binaryOp _ (Value.float (Flo.hf _) _) (Value.int _ _)) _ _ _); refine' Flo.k_modfi ?_ ?a0 ?a1 ?a2 ?a3; (case a0 => k_dflt omega); (case a1 => k_dflt omega); (case a2 => k_dflt decide); (case a3 => k_dflt decide); intro _ _ _ _ _))
local macro_rules | `(tactic| walk_at "binaryOp Mod float int") => `(tactic| ((with_reducible show wpAny _ _ (binaryOp _ (Value.float (Flo.hf (2 * _)) _) (Value.int _ _)) _ _ _); refine' Flo.k_modfi2 ?_ ?a0 ?a1 ?a2; (case a0 => k_dflt omega); (case a1 => k_dflt decide); (case a2 => k_dflt decide)))
local macro_rules | `(tactic| walk_at "binaryOp Div float int") => `(tactic| ((with_reducible show wpAny _ _ (binaryOp _ (Value.float (Flo.hf _) _) (Value.int _ _)) _ _ _); refine' Flo.k_divfi ?_ ?a0 ?a1 ?a2 ?a3; (case a0 => k_dflt omega); (case a1 => k_dflt omega); (case a2 => k_dflt decide); (case a3 => k_dflt decide); intro _ _ _ _))
local macro_rules | `(tactic| walk_at "binaryOp Div float int") => `(tactic| ((with_reducible show wpAny _ _ (binaryOp _ (Value.float (Flo.hf (2 * _)) _) (Value.int _ _)) _ _ _); refine' Flo.k_divfi2 ?_ ?a0 ?a1 ?a2; (case a0 => k_dflt omega); (case a1 => k_dflt decide); (case a2 => k_dflt decide); intro _ _))
local macro_rules | `(tactic| walk_at "binaryOp Div float float") => `(tactic| ((with_reducible show wpAny _ _ (binaryOp _ (Value.float (Flo.hf _) _) (Value.float Flo.TROP _)) _ _ _); refine Flo.k_divT ?_))
local macro_rules | `(tactic| walk_at "binaryOp Div int int") => `(tactic| (refine' Flo.k_divii ?_ ?a0 ?a1 ?a2; (case a0 => k_dflt omega); (case a1 => k_dflt decide); (case a2 => k_dflt decide); intro _ _))
local macro_rules | `(tactic| walk_at "call builtin:math.floor") => `(tactic| ((with_reducible show wpAny _ _ (call _ [(Value.float (Flo.hf _) _)]) _ _ _); refine' Flo.k_floorH ?_ ?h1 ?h2; (case h1 => k_dflt omega); (case h2 => k_dflt exact rfl); intro _ _ _))
local macro_rules | `(tactic| walk_at "call builtin:math.floor") => `(tactic| ((fail_if_success (with_reducible show wpAny _ _ (call _ [(Value.float (Flo.hf _) _)]) _ _ _)); refine' Flo.k_floorQ ?hq ?_ ?h1 ?h2 ?h3; (case hq => with_reducible assumption); (case h1 => k_dflt decide); (case h2 => k_dflt decide); (case h3 => k_dflt exact rfl); intro _ _ _))
local macro_rules | `(tactic| walk_at "call builtin:math.floor") => `(tactic| ((fail_if_success (with_reducible show wpAny _ _ (call _ [(Value.float (Flo.hf _) _)]) _ _ _)); refine' Flo.k_floorFl ?hq ?_ ?h3; (case hq => with_reducible assumption); (case h3 => k_dflt exact rfl)))
local macro_rules | `(tactic| walk_at "call builtin:math.ceil") => `(tactic| ((fail_if_success (with_reducible show wpAny _ _ (call _ [(Value.float (Flo.hf _) _)]) _ _ _)); refine' Flo.k_ceilQ ?hq ?_ ?h1 ?h2 ?h3; (case hq => with_reducible assumption); (case h1 => k_dflt decide); (case h2 => k_dflt decide); (case h3 => k_dflt exact rfl); intro _ _ _))
local macro_rules | `(tactic| walk_at "call builtin:round") => `(tactic| ((fail_if_success (with_reducible show wpAny _ _ (call _ [(Value.float (Flo.hf _) _)]) _ _ _)); refine' Flo.k_round ?hq ?_ ?h3; (case hq => with_reducible assumption); (case h3 => k_dflt exact rfl)))
local macro_rules | `(tactic| walk_at "call type:int") => `(tactic| ((with_reducible show wpAny _ _ (call _ [(Value.float (Flo.hf _) _)]) _ _ _); refine' Flo.k_intH ?_ ?h1 ?h2; (case h1 => k_dflt omega); (case h2 => k_dflt omega); intro _ _))
local macro_rules | `(tactic| walk_at "compareOp Lt float int") => `(tactic| ((with_reducible show wpAny _ _ (compareOp _ (Value.float (Flo.hf _) _) (Value.int _ _)) _ _ _); refine' Flo.k_ltfi ?_ ?h1; (case h1 => k_dflt omega)))
local macro_rules | `(tactic| walk_at "compareOp LtE float int") => `(tactic| ((with_reducible show wpAny _ _ (compareOp _ (Value.float (Flo.hf _) _) (Value.int _ _)) _ _ _); refine' Flo.k_lefi ?_ ?h1; (case h1 => k_dflt omega)))
local macro_rules | `(tactic| walk_at "compareOp Gt float int") => `(tactic| ((with_reducible show wpAny _ _ (compareOp _ (Value.float (Flo.hf _) _) (Value.int _ _)) _ _ _); refine' Flo.k_gtfi ?_ ?h1; (case h1 => k_dflt omega)))
local macro_rules | `(tactic| walk_at "compareOp NotEq float float") => `(tactic| ((with_reducible show wpAny _ _ (compareOp _ (Value.float (Flo.hf _) _) (Value.float (Flo.hf _) _)) _ _ _); refine' Flo.k_neff ?_ ?h1 ?h2; (case h1 => k_dflt omega); (case h2 => k_dflt omega)))
local macro_rules | `(tactic| walk_at "compareOp Gt int float") => `(tactic| (refine' Flo.k_gtiF ?hq ?_; (case hq => with_reducible assumption)))
local macro_rules | `(tactic| walk_at "compareOp LtE int float") => `(tactic| (refine' Flo.k_leiF ?hq ?_; (case hq => with_reducible assumption)))
local macro_rules | `(tactic| walk_at "compareOp Lt float int") => `(tactic| ((fail_if_success (with_reducible show wpAny _ _ (compareOp _ (Value.float (Flo.hf _) _) _) _ _ _)); refine' Flo.k_ltFi ?hq ?_; (case hq => with_reducible assumption)))
local macro_rules | `(tactic| walk_at "eval Call") => `(tactic| (k_dflt (refine Call_ ?_)))
local macro_rules | `(tactic| walk_at "execs cons") => `(tactic| (k_here; (with_reducible refine gen_tk ?_); intro _; (with_reducible refine wpAny_execs_cons ?_); (try dsimp only)))
local macro_rules | `(tactic| walk_at "my need") => `(tactic| first | with_reducible exact need_nil | with_reducible assumption | ((repeat (with_reducible refine need_cons ?_)); with_reducible assumption))
local macro_rules | `(tactic| walk_at "my N") => `(tactic| first | k_asm | ((rename News _ _ _ _ => nE'); exact fun p hp => nE' p (by (repeat (first | with_reducible exact hp | with_reducible refine List.mem_cons_of_mem _ ?_)))))
local macro_rules | `(tactic| walk_at "call ref") => `(tactic| (k_here; k_dflt (refine' Says.use (c_tojd _ _ _ _ _ _ _ _ _ _ _ (by assumption) (by assumption) ?s1 ?s2 ?s3 ?s4 ?s5 ?s6 (by assumption)) ?k1 ?k2 ?k3 ?k4 ?k5 ?k6 ?k7 ?k8 ?k9 ?_; (case k1 => k_asm); (case k2 => k_asm); (case k3 => k_asm); (case k4 => k_asm); (case k5 => k_asm); (case k6 => first | exact rfl | assumption); (case k7 => walk_at "my need"); (case s1 => first | assumption | omega | decide | exact one_le_ml _ _ | ((try dsimp only); omega)); (case s2 => first | assumption | omega | decide | exact one_le_ml _ _ | ((try dsimp only); omega)); (case s3 => first | assumption | omega | decide | exact one_le_ml _ _ | ((try dsimp only); omega)); (case s4 => first | assumption | omega | decide | exact one_le_ml _ _ | ((try dsimp only); omega)); (case s5 => first | assumption | omega | decide | exact one_le_ml _ _ | ((try dsimp only); omega)); (case s6 => first | assumption | omega | decide | exact one_le_ml _ _ | ((try dsimp only); omega)); (case k8 => ktr_room); (case k9 => ktr_units); k_whole; (intro t9 h9 tk9 F9 N9); (all_goals (try dsimp only)); (all_goals (try k_fold)))))
local macro_rules | `(tactic| walk_at "call ref") => `(tactic| (k_here; k_dflt (refine' Says.use (c_from_jd _ _ _ _ ?s1 ?s2 ?s3) ?k1 ?k2 ?k3 ?k4 ?k5 ?k6 ?k7 ?k8 ?k9 ?_; (case k1 => k_asm); (case k2 => k_asm); (case k3 => k_asm); (case k4 => k_asm); (case k5 => k_asm); (case k6 => first | exact rfl | assumption); (case k7 => walk_at "my need"); (case s1 => first | assumption | omega | decide | exact one_le_ml _ _ | ((try dsimp only); omega)); (case s2 => first | assumption | omega | decide | exact one_le_ml _ _ | ((try dsimp only); omega)); (case s3 => first | assumption | omega | decide | exact one_le_ml _ _ | ((try dsimp only); omega)); (case k8 => ktr_room); (case k9 => ktr_units); k_whole; (intro x9 y9 mo9 d9 t91 t92 t93 h9 tk9 P9 F9 N9 l9; (try k_lt l9)); (all_goals (try dsimp only)); (all_goals (try k_fold)))))

set_option maxHeartbeats 4000000 in
theorem c_togreg (w : World) (need : Led) (q : Addr) (Ec : Int → Int) (y m d mo : Int) (t1 t2 t3 : Tok) (hE : EqFn w need q Ec) (H : Opens Ec) (hy1 : -41400 < y) (hy2 : y < 41200) (hm1 : 1 ≤ m) (hm2 : m ≤ 12) (hd1 : -1000 < d) (hd2 : d < 1000)
    (hmo : (m ≤ 7 ∧ mo = (m - 1) * 31) ∨ (7 < m ∧ mo = (m - 1) * 30 + 6)) :
    Says w need 122 [.int y t1, .int m t2, .int d t3, .ref q] 18 144 (RetT3 (IsDate (Ec (y + 621) + mo + d))) := by
  unfold Says
  k_fill
  intro pg loose mean mg mb news dp un gd cn cs a ccd cl outer A₀ base h₀ L mm s Q E B F X N T hk hn9 hd9 hu9 hret
  have hbd : -19000000 < Ec (y + 621) ∧ Ec (y + 621) < 19000000 := by
    have n3 := H.near1 (y + 621)
    have n4 := H.near2 (y + 621)
    clear hret
    generalize Ec (y + 621) = e2 at *
    omega
  obtain ⟨b1, b2⟩ := hbd
  have hfl : Flo.FlIs (Float64.sub (Flo.hf (2 * (Ec (y + 621) - 1 + mo + d) + 1)) (Flo.hf 1)) (Ec (y + 621) - 1 + mo + d) := by
    have := Flo.flIs_hf (a := 2 * (Ec (y + 621) - 1 + mo + d)) (by omega)
    rw [Flo.sub_hf (by omega) (by omega), show 2 * (Ec (y + 621) - 1 + mo + d) + 1 - 1 = 2 * (Ec (y + 621) - 1 + mo + d) by omega]
    rwa [show 2 * (Ec (y + 621) - 1 + mo + d) / 2 = Ec (y + 621) - 1 + mo + d by omega] at this
  have hD : Ec (y + 621) - 1 + mo + d + 1 = Ec (y + 621) + mo + d := by omega
  refine wpAny_call ?_
  k_dflt (refine' code_def (binds := [(Str.ofString "year", .int y t1), (Str.ofString "month", .int m t2), (Str.ofString "day", .int d t3), (Str.ofString "equinox_jd", .ref q)]) ?k1 ?k2 ?k3 ?k4 ?k5 ?kA ?kF ?kK ?k6 ?k7 ?k8 ?k9 ?kB ?_ ?c2 ?c3 ?c4 ?c5; (case kA => exact rfl); (case kF => exact rfl); (case kK => assumption); (case k1 => k_asm); (case k2 => k_asm); (case k3 => k_asm); (case k4 => k_asm); (case k5 => k_asm); (case k6 => k_is); (case k7 => k_is); (case k8 => ktr_room); (case k9 => exact BindsTo.of_eq rfl); (case c5 => decide); (case kB => exact locs rfl); (case c2 => exact rfl); (case c3 => exact rfl); (case c4 => exact rfl); k_whole; intro g' L' h' FG' F' N' B' X' T'; (try dsimp only [List.reverse_cons, List.reverse_nil, List.nil_append, List.cons_append, List.append_nil]); (try k_lift B'); (try k_fold))
  k_steps
  all_goals (first | exact endT3 hret (by k_asm) (by walk_at "my N") (by assumption) (by rw [← hD]; assumption) | trace_state)

local macro_rules | `(tactic| walk_at "call ref") => `(tactic| (k_here; k_dflt (refine' Says.use (c_to_jd _ _ _ _ _ _ _ ?s1 ?s2 ?s3 ?s4 ?s5 ?s6) ?k1 ?k2 ?k3 ?k4 ?k5 ?k6 ?k7 ?k8 ?k9 ?_; (case k1 => k_asm); (case k2 => k_asm); (case k3 => k_asm); (case k4 => k_asm); (case k5 => k_asm); (case k6 => first | exact rfl | assumption); (case k7 => walk_at "my need"); (case s1 => first | assumption | omega | decide | exact one_le_ml _ _ | ((try dsimp only); omega)); (case s2 => first | assumption | omega | decide | exact one_le_ml _ _ | ((try dsimp only); omega)); (case s3 => first | assumption | omega | decide | exact one_le_ml _ _ | ((try dsimp only); omega)); (case s4 => first | assumption | omega | decide | exact one_le_ml _ _ | ((try dsimp only); omega)); (case s5 => first | assumption | omega | decide | exact one_le_ml _ _ | ((try dsimp only); omega)); (case s6 => first | assumption | omega | decide | exact one_le_ml _ _ | ((try dsimp only); omega)); (case k8 => ktr_room); (case k9 => ktr_units); k_whole; (intro v9 t9 h9 tk9 P9 F9 N9; (try dsimp only at P9)); (obtain ⟨hv9, _, _⟩ := P9; rw [(by assumption : gjd _ _ _ = _)] at hv9; subst hv9); (all_goals (try dsimp only)); (all_goals (try k_fold)))))
local macro_rules | `(tactic| walk_at "call ref") => `(tactic| (k_here; k_dflt (refine' Says.use (c_fromjd _ _ _ _ _ _ _ (by assumption) (by assumption) (by assumption) (by assumption) (by assumption) (by assumption)) ?k1 ?k2 ?k3 ?k4 ?k5 ?k6 ?k7 ?k8 ?k9 ?_; (case k1 => k_asm); (case k2 => k_asm); (case k3 => k_asm); (case k4 => k_asm); (case k5 => k_asm); (case k6 => first | exact rfl | assumption); (case k7 => walk_at "my need"); (case k8 => ktr_room); (case k9 => ktr_units); k_whole; (intro x9 y9 mo9 d9 t91 t92 t93 h9 tk9 P9 F9 N9 l9; (try k_lt l9)); (all_goals (try dsimp only)); (all_goals (try k_fold)))))

set_option maxHeartbeats 4000000 in
theorem c_fromgreg (w : World) (need : Led) (q : Addr) (Ec : Int → Int) (y m d D c : Int) (t1 t2 t3 : Tok) (hE : EqFn w need q Ec) (H : Opens Ec) (hc1 : -40900 < c) (hc2 : c < 41900) (h1 : Ec c < D) (h2 : D ≤ Ec (c + 1)) (hd : IsDate D y m d) (hy1 : -100000 < y) (hy2 : y < 100000) :
    Says w need 115 [.int y t1, .int m t2, .int d t3, .ref q] 18 144 (RetT3 fun y m d => y = c - 621 ∧ MonthDay (D - Ec c) m d) := by
  unfold Says
  k_fill
  intro pg loose mean mg mb news dp un gd cn cs a ccd cl outer A₀ base h₀ L mm s Q E B F X N T hk hn9 hd9 hu9 hret
  obtain ⟨m1, m2, d1, d2, hg⟩ := hd
  have d1' : 0 < d := by omega
  refine wpAny_call ?_
  k_dflt (refine' code_def (binds := [(Str.ofString "year", .int y t1), (Str.ofString "month", .int m t2), (Str.ofString "day", .int d t3), (Str.ofString "equinox_jd", .ref q)]) ?k1 ?k2 ?k3 ?k4 ?k5 ?kA ?kF ?kK ?k6 ?k7 ?k8 ?k9 ?kB ?_ ?c2 ?c3 ?c4 ?c5; (case kA => exact rfl); (case kF => exact rfl); (case kK => assumption); (case k1 => k_asm); (case k2 => k_asm); (case k3 => k_asm); (case k4 => k_asm); (case k5 => k_asm); (case k6 => k_is); (case k7 => k_is); (case k8 => ktr_room); (case k9 => exact BindsTo.of_eq rfl); (case c5 => decide); (case kB => exact locs rfl); (case c2 => exact rfl); (case c3 => exact rfl); (case c4 => exact rfl); k_whole; intro g' L' h' FG' F' N' B' X' T'; (try dsimp only [List.reverse_cons, List.reverse_nil, List.nil_append, List.cons_append, List.append_nil]); (try k_lift B'); (try k_fold))
  k_steps
  all_goals (first | exact endT3 hret (by k_asm) (by walk_at "my N") (by assumption) (by assumption) | trace_state)
end Mine

end

section
open PySem PySem.W PyProof.Rows PySem.Spec PySem.Calls
set_option Elab.async false
set_option maxRecDepth 100000
namespace Mine
local macro_rules | `(tactic| walk_at "eval Constant float") => `(tactic| (k_dflt (refine Flo.k_const Flo.half_lit ?_)))
local macro_rules | `(tactic| walk_at "binaryOp Sub float float") => `(tactic| (k_dflt ((fail_if_success (with_reducible show wpAny _ _ (binaryOp _ _ (Value.float (Flo.hf _) _)) _ _ _)); (fail_if_success (with_reducible show wpAny _ _ (binaryOp _ _ (Value.float Flo.TROP _)) _ _ _)); refine Flo.k_subL Flo.epg_lit ?_)))
local macro_rules | `(tactic| walk_at "binaryOp Sub float float") => `(tactic| (k_dflt ((fail_if_success (with_reducible show wpAny _ _ (binaryOp _ _ (Value.float (Flo.hf _) _)) _ _ _)); (fail_if_success (with_reducible show wpAny _ _ (binaryOp _ _ (Value.float Flo.TROP _)) _ _ _)); refine Flo.k_subL Flo.epp_lit ?_)))
local macro_rules | `(tactic| walk_at "binaryOp Sub int float") => `(tactic| (k_dflt ((fail_if_success (with_reducible show wpAny _ _ (binaryOp _ _ (Value.float (Flo.hf _) _)) _ _ _)); (fail_if_success (with_reducible show wpAny _ _ (binaryOp _ _ (Value.float Flo.TROP _)) _ _ _)); refine Flo.k_subL Flo.epp_lit ?_)))
local macro_rules | `(tactic| walk_at "binaryOp Sub float int") => `(tactic| (k_dflt ((fail_if_success (with_reducible show wpAny _ _ (binaryOp _ (Value.float (Flo.hf _) _) _) _ _ _)); (fail_if_success (with_reducible show wpAny _ _ (binaryOp _ (Value.float Flo.TROP _) _) _ _ _)); refine Flo.k_Lsub Flo.epg_lit ?_)))
local macro_rules | `(tactic| walk_at "binaryOp Sub float int") => `(tactic| (k_dflt ((fail_if_success (with_reducible show wpAny _ _ (binaryOp _ (Value.float (Flo.hf _) _) _) _ _ _)); (fail_if_success (with_reducible show wpAny _ _ (binaryOp _ (Value.float Flo.TROP _) _) _ _ _)); refine Flo.k_Lsub Flo.epp_lit ?_)))
local macro_rules | `(tactic| walk_at "binaryOp Mult float int") => `(tactic| (k_dflt ((fail_if_success (with_reducible show wpAny _ _ (binaryOp _ (Value.float (Flo.hf _) _) _) _ _ _)); (fail_if_success (with_reducible show wpAny _ _ (binaryOp _ (Value.float Flo.TROP _) _) _ _ _)); refine Flo.k_Lmul Flo.trop_lit ?_)))
local macro_rules | `(tactic| walk_at "binaryOp Div float float") => `(tactic| (k_dflt ((fail_if_success (with_reducible show wpAny _ _ (binaryOp _ _ (Value.float (Flo.hf _) _)) _ _ _)); (fail_if_success (with_reducible show wpAny _ _ (binaryOp _ _ (Value.float Flo.TROP _)) _ _ _)); refine Flo.k_divL Flo.trop_lit ?_)))
local macro_rules | `(tactic| walk_at "binaryOp Add int float") => `(tactic| (k_dflt ((fail_if_success (with_reducible show wpAny _ _ (binaryOp _ _ (Value.float (Flo.hf _) _)) _ _ _)); (fail_if_success (with_reducible show wpAny _ _ (binaryOp _ _ (Value.float Flo.TROP _)) _ _ _)); refine Flo.k_addL Flo.trop_lit ?_)))
local macro_rules | `(tactic| walk_at "binaryOp Add int bool") => `(tactic| (first | refine' Flo.k_addit ?_ | refine' Flo.k_addif0 ?_))
local macro_rules | `(tactic| walk_at "binaryOp Add float float") => `(tactic| ((with_reducible show wpAny _ _ (binaryOp _ (Value.float (Flo.hf _) _) (Value.float (Flo.hf _) _)) _ _ _); refine' Flo.k_addff ?_ ?a0 ?a1; (case a0 => k_dflt omega); (case a1 => k_dflt omega)))
local macro_rules | `(tactic| walk_at "binaryOp Sub float float") => `(tactic| ((with_reducible show wpAny _ _ (binaryOp _ (Value.float (Flo.hf _) _) (Value.float (Flo.hf _) _)) _ _ _); refine' Flo.k_subff ?_ ?a0 ?a1; (case a0 => k_dflt omega); (case a1 => k_dflt omega)))
local macro_rules | `(tactic| walk_at "binaryOp Add float int") => `(tactic| ((fail_if_success (with_reducible show wpAny _ _ (binaryOp _ (Value.float (Flo.hf _) _) _) _ _ _)); refine' Flo.k_addQi ?_ ?hq ?h1 ?h2 ?h3 ?h4; (case hq => with_reducible assumption); (case h1 => k_dflt decide); (case h2 => k_dflt decide); (case h3 => k_dflt omega); (case h4 => k_dflt omega); intro _ _))
local macro_rules | `(tactic| walk_at "binaryOp Add float int") => `(tactic| ((with_reducible show wpAny _ _ (binaryOp _ (Value.float (Flo.hf _) _) (Value.int _ _)) _ _ _); refine' Flo.k_addfi ?_ ?a ?b; (case a => k_dflt omega); (case b => k_dflt omega)))
local macro_rules | `(tactic| walk_at "binaryOp Add int float") => `(tactic| ((with_reducible show wpAny _ _ (binaryOp _ (Value.int _ _) (Value.float Flo.TROP _)) _ _ _); refine' Flo.k_addiX ?_ ?a0; (case a0 => k_dflt omega)))
local macro_rules | `(tactic| walk_at "binaryOp Add float int") => `(tactic| ((with_reducible show wpAny _ _ (binaryOp _ (Value.float (Float64.add _ _) _) (Value.int _ _)) _ _ _); refine' Flo.k_addXi ?_ ?a0; (case a0 => k_dflt omega)))
local macro_rules | `(tactic| walk_at "binaryOp Add int float") => `(tactic| ((with_reducible show wpAny _ _ (binaryOp _ (Value.int _ _) (Value.float (Flo.hf _) _)) _ _ _); refine' Flo.k_addif ?_ ?a0 ?a1; (case a0 => k_dflt omega); (case a1 => k_dflt omega)))
local macro_rules | `(tactic| walk_at "binaryOp Sub float int") => `(tactic| ((with_reducible show wpAny _ _ (binaryOp _ (Value.float (Flo.hf _) _) (Value.int _ _)) _ _ _); refine' Flo.k_subfi ?_ ?a0 ?a1; (case a0 => k_dflt omega); (case a1 => k_dflt omega)))
local macro_rules | `(tactic| walk_at "binaryOp Sub int float") => `(tactic| ((with_reducible show wpAny _ _ (binaryOp _ (Value.int _ _) (Value.float (Flo.hf _) _)) _ _ _); refine' Flo.k_subif ?_ ?a0 ?a1; (case a0 => k_dflt omega); (case a1 => k_dflt omega)))
local macro_rules | `(tactic| walk_at "binaryOp Mult float int") => `(tactic| ((with_reducible show wpAny _ _ (binaryOp _ (Value.float (Flo.hf _) _) (Value.int _ _)) _ _ _); refine' Flo.k_mulfi ?_ ?a0 ?a1 ?a2 ?a3; (case a0 => k_dflt omega); (case a1 => k_dflt omega); (case a2 => k_dflt decide); (case a3 => k_dflt decide)))
local macro_rules | `(tactic| walk_at "binaryOp Mult float int") => `(tactic| ((with_reducible show wpAny _ _ (binaryOp _ (Value.float Flo.TROP _) (Value.int _ _)) _ _ _); refine' Flo.k_mulT ?_ ?a0; (case a0 => k_dflt omega)))
local macro_rules | `(tactic| walk_at "binaryOp Mod float int") => `(tactic| ((with_reducible show wpAny _ _ (binaryOp _ (Value.float (Flo.hf _) _) (Value.int _ _)) _ _ _); refine' Flo.k_modfi ?_ ?a0 ?a1 ?a2 ?a3; (case a0 => k_dflt omega); (case a1 => k_dflt omega); (case a2 => k_dflt decide); (case a3 => k_dflt decide); intro _ _ _ _ _))
local macro_rules | `(tactic| walk_at "binaryOp Mod float int") => `(tactic| ((with_reducible show wpAny _ _ (binaryOp _ (Value.float (Flo.hf (2 * _)) _) (Value.int _ _)) _ _ _); refine' Flo.k_modfi2 ?_ ?a0 ?a1 ?a2; (case a0 => k_dflt omega); (case a1 => k_dflt decide); (case a2 => k_dflt decide)))
local macro_rules | `(tactic| walk_at "binaryOp Div float int") => `(tactic| ((with_reducible show wpAny _ _ (binaryOp _ (Value.float (Flo.hf _) _) (Value.int _ _)) _ _ _); refine' Flo.k_divfi ?_ ?a0 ?a1 ?a2 ?a3; (case a0 => k_dflt omega); (case a1 => k_dflt omega); (case a2 => k_dflt decide); (case a3 => k_dflt decide); intro _ _ _ _))
local macro_rules | `(tactic| walk_at "binaryOp Div float int") => `(tactic| ((with_reducible show wpAny _ _ (binaryOp _ (Value.float (Flo.hf (2 * _)) _) (Value.int _ _)) _ _ _); refine' Flo.k_divfi2 ?_ ?a0 ?a1 ?a2; (case a0 => k_dflt omega); (case a1 => k_dflt decide); (case a2 => k_dflt decide); intro _ _))
local macro_rules | `(tactic| walk_at "binaryOp Div float float") => `(tactic| ((with_reducible show wpAny _ _ (binaryOp _ (Value.float (Flo.hf _) _) (Value.float Flo.TROP _)) _ _ _); refine Flo.k_divT ?_))
local macro_rules | `(tactic| walk_at "binaryOp Div int int") => `(tactic| (refine' Flo.k_divii ?_ ?a0 ?a1 ?a2; (case a0 => k_dflt omega); (case a1 => k_dflt decide); (case a2 => k_dflt decide); intro _ _))
local macro_rules | `(tactic| walk_at "call builtin:math.floor") => `(tactic| ((with_reducible show wpAny _ _ (call _ [(Value.float (Flo.hf _) _)]) _ _ _); refine' Flo.k_floorH ?_ ?h1 ?h2; (case h1 => k_dflt omega); (case h2 => k_dflt exact rfl); intro _ _ _))
local macro_rules | `(tactic| walk_at "call builtin:math.floor") => `(tactic| ((fail_if_success (with_reducible show wpAny _ _ (call _ [(Value.float (Flo.hf _) _)]) _ _ _)); refine' Flo.k_floorQ ?hq ?_ ?h1 ?h2 ?h3; (case hq => with_reducible assumption); (case h1 => k_dflt decide); (case h2 => k_dflt decide); (case h3 => k_dflt exact rfl); intro _ _ _))
local macro_rules | `(tactic| walk_at "call builtin:math.floor") => `(tactic| ((fail_if_success (with_reducible show wpAny _ _ (call _ [(Value.float (Flo.hf _) _)]) _ _ _)); refine' Flo.k_floorFl ?hq ?_ ?h3; (case hq => with_reducible assumption); (case h3 => k_dflt exact rfl)))
local macro_rules | `(tactic| walk_at "call builtin:math.ceil") => `(tactic| ((fail_if_success (with_reducible show wpAny _ _ (call _ [(Value.float (Flo.hf _) _)]) _ _ _)); refine' Flo.k_ceilQ ?hq ?_ ?h1 ?h2 ?h3; (case hq => with_reducible assumption); (case h1 => k_dflt decide); (case h2 => k_dflt decide); (case h3 => k_dflt exact rfl); intro _ _ _))
local macro_rules | `(tactic| walk_at "call builtin:round") => `(tactic| ((fail_if_success (with_reducible show wpAny _ _ (call _ [(Value.float (Flo.hf _) _)]) _ _ _)); refine' Flo.k_round ?hq ?_ ?h3; (case hq => with_reducible assumption); (case h3 => k_dflt exact rfl)))
local macro_rules | `(tactic| walk_at "call type:int") => `(tactic| ((with_reducible show wpAny _ _ (call _ [(Value.float (Flo.hf _) _)]) _ _ _); refine' Flo.k_intH ?_ ?h1 ?h2; (case h1 => k_dflt omega); (case h2 => k_dflt omega); intro _ _))
local macro_rules | `(tactic| walk_at "compareOp Lt float int") => `(tactic| ((with_reducible show wpAny _ _ (compareOp _ (Value.float (Flo.hf _) _) (Value.int _ _)) _ _ _); refine' Flo.k_ltfi ?_ ?h1; (case h1 => k_dflt omega)))
local macro_rules | `(tactic| walk_at "compareOp LtE float int") => `(tactic| ((with_reducible show wpAny _ _ (compareOp _ (Value.float (Flo.hf _) _) (Value.int _ _)) _ _ _); refine' Flo.k_lefi ?_ ?h1; (case h1 => k_dflt omega)))
local macro_rules | `(tactic| walk_at "compareOp Gt float int") => `(tactic| ((with_reducible show wpAny _ _ (compareOp _ (Value.float (Flo.hf _) _) (Value.int _ _)) _ _ _); refine' Flo.k_gtfi ?_ ?h1; (case h1 => k_dflt omega)))
local macro_rules | `(tactic| walk_at "compareOp NotEq float float") => `(tactic| ((with_reducible show wpAny _ _ (compareOp _ (Value.float (Flo.hf _) _) (Value.float (Flo.hf _) _)) _ _ _); refine' Flo.k_neff ?_ ?h1 ?h2; (case h1 => k_dflt omega); (case h2 => k_dflt omega)))
local macro_rules | `(tactic| walk_at "compareOp Gt int float") => `(tactic| (refine' Flo.k_gtiF ?hq ?_; (case hq => with_reducible assumption)))
local macro_rules | `(tactic| walk_at "compareOp LtE int float") => `(tactic| (refine' Flo.k_leiF ?hq ?_; (case hq => with_reducible assumption)))
local macro_rules | `(tactic| walk_at "compareOp Lt float int") => `(tactic| ((fail_if_success (with_reducible show wpAny _ _ (compareOp _ (Value.float (Flo.hf _) _) _) _ _ _)); refine' Flo.k_ltFi ?hq ?_; (case hq => with_reducible assumption)))
local macro_rules | `(tactic| walk_at "eval Call") => `(tactic| (k_dflt (refine Call_ ?_)))
local macro_rules | `(tactic| walk_at "execs cons") => `(tactic| (k_here; (with_reducible refine gen_tk ?_); intro _; (with_reducible refine wpAny_execs_cons ?_); (try dsimp only)))
local macro_rules | `(tactic| walk_at "my need") => `(tactic| first | with_reducible exact need_nil | with_reducible assumption | ((repeat (with_reducible refine need_cons ?_)); with_reducible assumption))
local macro_rules | `(tactic| walk_at "my N") => `(tactic| first | k_asm | ((rename News _ _ _ _ => nE'); exact fun p hp => nE' p (by (repeat (first | with_reducible exact hp | with_reducible refine List.mem_cons_of_mem _ ?_)))))
abbrev listObj (vs : List Value) (n : Nat) : Obj := { cls := .type "list", data := .seq vs.toArray n }
abbrev tup3 (a b c : Value) : Obj := { cls := .type "tuple", data := .seq #[a, b, c] }
/-- twelve ints, told by sz -/
def Twelve (vs : List Value) (sz : Int → Int) : Prop := vs.length = 12 ∧ ∀ p : Int, 0 ≤ p → p < 12 → ∃ tk, vs[p.toNat]? = some (.int (sz p) tk)
section
variable {prog : Program} {w : World} {A : Around} {E : Value → Shared → Prop} {s : Shared} {t u : Tok} {Q : Value → Shared → Prop} {n k : Int} {h₀ : Heap} {L : Addr} {news : Led} {sl : Addr} {vs : List Value} {sz : Int → Int} {nn : Nat}
theorem k_div2 (h : Q (.float (Flo.hf n) s.toks) { s with toks := s.toks + 1 }) (hn : n.natAbs < 2 ^ 50) : wpAny (model prog w) A (binaryOp .Div (.int n t) (.int 2 u)) Q E s := by
  have e : Float64.ofFrac (decide (n < 0) != decide ((2 : Int) < 0)) n.natAbs (2 : Int).natAbs = Flo.hf n := by
    unfold Flo.hf
    rw [decide_eq_false (by decide : ¬ (2 : Int) < 0), Bool.bne_false]
    rfl
  refine AutoIntOps.truediv_2 (by decide) (by rw [e, (Flo.near_fin (Flo.near_hf (a := n) (by omega))).2.2]; decide) ?_
  show Q (.float (Float64.ofFrac _ _ _) s.toks) _
  rw [e]
  exact h
theorem k_item {value slice : Expr} (N : News h₀ L s.heap news) (hm : (sl, listObj vs nn) ∈ news) (hv : Twelve vs sz) (h0 : 0 ≤ k) (h1 : k < 12) (h : ∀ tk, Q (.int (sz k) tk) s)
    (hs : subscripted slice false (.ref sl) (.int k u) = operate [.ref sl, .int k u] (getItem (.ref sl) (.int k u)) := by with_unfolding_all rfl) :
    wpAny (model prog w) A (subscriptTail value slice (.ref sl) (.int k u)) Q E s := by
  obtain ⟨tk, ht⟩ := hv.2 k h0 h1
  have hl : s.heap.IsList sl vs.toArray := News.isList N hm
  exact tail_any hl.typeIs slot_list_getitem.lookup (wpAny_getItem_list hl h0 (by omega) (by simpa using ht) (h tk)) hs
theorem k_len12 (N : News h₀ L s.heap news) (hm : (sl, listObj vs nn) ∈ news) (hv : Twelve vs sz) (h : Q (.int 12 (s.toks + 1)) { s with toks := s.toks + 1 + 1 }) : wpAny (model prog w) A (call (.builtin "len") [.ref sl]) Q E s := by
  have hl : s.heap.IsList sl vs.toArray := News.isList N hm
  have e : ((vs.toArray.size : Nat) : Int) = 12 := by rw [List.size_toArray, hv.1]; rfl
  exact len_list hl (by rw [e]; decide) (by rw [e]; exact h)
end
local macro_rules | `(tactic| walk_at "call builtin:len") => `(tactic| (k_here; (with_reducible show wpAny _ _ (call (Value.builtin "len") [Value.ref _]) _ _ _); k_dflt (refine' k_len12 ?N ?m ?v ?_; (case N => k_asm); (case m => k_mem); (case v => assumption); k_whole)))
local macro_rules | `(tactic| walk_at "binaryOp Div int int") => `(tactic| (refine' k_div2 ?_ ?a; (case a => k_dflt omega)))

set_option maxHeartbeats 4000000 in
theorem c_lawjd (w : World) (d : Int) (t : Tok) (h1 : -100000000 < d) (h2 : d < 100000000) : Says w [] 144 [.int d t] 1 16 (RetF (2 * d - 1)) := by
  unfold Says
  k_fill
  intro pg loose mean mg mb news dp un gd cn cs a ccd cl outer A₀ base h₀ L mm s Q E B F X N T hk hn9 hd9 hu9 hret
  refine wpAny_call ?_
  k_dflt (refine' code_def (binds := [(Str.ofString "day", .int d t)]) ?k1 ?k2 ?k3 ?k4 ?k5 ?kA ?kF ?kK ?k6 ?k7 ?k8 ?k9 ?kB ?_ ?c2 ?c3 ?c4 ?c5; (case kA => exact rfl); (case kF => exact rfl); (case kK => assumption); (case k1 => k_asm); (case k2 => k_asm); (case k3 => k_asm); (case k4 => k_asm); (case k5 => k_asm); (case k6 => k_is); (case k7 => k_is); (case k8 => ktr_room); (case k9 => exact BindsTo.of_eq rfl); (case c5 => decide); (case kB => exact locs rfl); (case c2 => exact rfl); (case c3 => exact rfl); (case c4 => exact rfl); k_whole; intro g' L' h' FG' F' N' B' X' T'; (try dsimp only [List.reverse_cons, List.reverse_nil, List.nil_append, List.cons_append, List.append_nil]); (try k_lift B'); (try k_fold))
  k_steps
  all_goals (first | exact endF hret (by k_asm) (by walk_at "my N") rfl | trace_state)

local macro_rules | `(tactic| walk_at "subscriptTail") => `(tactic| (k_here; (with_reducible show wpAny _ _ (subscriptTail _ _ (Value.ref _) (Value.int _ _)) _ _ _); k_dflt (refine' k_item ?N ?m ?v ?a ?b ?_; (case N => k_asm); (case m => k_mem); (case v => assumption); (case a => omega); (case b => omega); k_whole; intro _)))

set_option maxHeartbeats 4000000 in
theorem c_lawnext (w : World) (need : Led) (dt sl : Addr) (y m d : Int) (ty tm td : Tok) (vs : List Value) (nn : Nat) (sz : Int → Int) (hdt : (dt, tup3 (.int y ty) (.int m tm) (.int d td)) ∈ need) (hsl : (sl, listObj vs nn) ∈ need) (hv : Twelve vs sz) (hm1 : 1 ≤ m) (hm2 : m ≤ 12) :
    Says w need 170 [.ref dt, .ref sl] 1 16 (RetT3 fun y' m' d' => (d < sz (m - 1) ∧ y' = y ∧ m' = m ∧ d' = d + 1) ∨ (sz (m - 1) ≤ d ∧ m < 12 ∧ y' = y ∧ m' = m + 1 ∧ d' = 1) ∨ (sz (m - 1) ≤ d ∧ m = 12 ∧ y' = y + 1 ∧ m' = 1 ∧ d' = 1)) := by
  unfold Says
  k_fill
  intro pg loose mean mg mb news dp un gd cn cs a ccd cl outer A₀ base h₀ L mm s Q E B F X N T hk hn9 hd9 hu9 hret
  have hdt' := hn9 _ hdt
  have hsl' := hn9 _ hsl
  have hlen := hv.1
  refine wpAny_call ?_
  k_dflt (refine' code_def (binds := [(Str.ofString "dated", .ref dt), (Str.ofString "sizes", .ref sl)]) ?k1 ?k2 ?k3 ?k4 ?k5 ?kA ?kF ?kK ?k6 ?k7 ?k8 ?k9 ?kB ?_ ?c2 ?c3 ?c4 ?c5; (case kA => exact rfl); (case kF => exact rfl); (case kK => assumption); (case k1 => k_asm); (case k2 => k_asm); (case k3 => k_asm); (case k4 => k_asm); (case k5 => k_asm); (case k6 => k_is); (case k7 => k_is); (case k8 => ktr_room); (case k9 => exact BindsTo.of_eq rfl); (case c5 => decide); (case kB => exact locs rfl); (case c2 => exact rfl); (case c3 => exact rfl); (case c4 => exact rfl); k_whole; intro g' L' h' FG' F' N' B' X' T'; (try dsimp only [List.reverse_cons, List.reverse_nil, List.nil_append, List.cons_append, List.append_nil]); (try k_lift B'); (try k_fold))
  k_steps
  all_goals (first | exact endT3 hret (by k_asm) (by walk_at "my N") (by assumption) (by omega) | trace_state)

/-- the sums of sz ahead of a place -/
def SumsOf (S sz : Int → Int) : Prop := S 0 = 0 ∧ ∀ p, 0 ≤ p → p < 12 → S (p + 1) = S p + sz p

theorem off_step {S sz : Int → Int} {p r r0 : Int} (hS : SumsOf S sz) (h1 : r0 < S 12) (h : 0 ≤ p ∧ p < 12 ∧ 0 ≤ r ∧ S p + r = r0) (hge : sz p ≤ r) : 0 ≤ p + 1 ∧ p + 1 < 12 ∧ 0 ≤ r - sz p ∧ S (p + 1) + (r - sz p) = r0 := by
  have e := hS.2 p h.1 h.2.1
  rcases (by omega : p = 11 ∨ p < 11) with hp | hp
  · subst hp
    rw [show (11 : Int) + 1 = 12 from rfl] at e
    omega
  · omega

set_option maxHeartbeats 4000000 in
theorem c_lawoff (w : World) (need : Led) (sl : Addr) (r0 : Int) (t : Tok) (vs : List Value) (nn : Nat) (sz S : Int → Int) (hsl : (sl, listObj vs nn) ∈ need) (hv : Twelve vs sz) (hS : SumsOf S sz) (h0 : 0 ≤ r0) (h1 : r0 < S 12) :
    Says w need 151 [.int r0 t, .ref sl] 1 16 (RetT2 fun p r => 0 ≤ p ∧ p < 12 ∧ 0 ≤ r ∧ r < sz p ∧ S p + r = r0) := by
  unfold Says
  k_fill
  intro pg loose mean mg mb news dp un gd cn cs a ccd cl outer A₀ base h₀ L mm s Q E B F X N T hk hn9 hd9 hu9 hret
  have hsl' := hn9 _ hsl
  have hS0 := hS.1
  k_with "state" => first | omega | exact off_step hS h1 ⟨by omega, by omega, by omega, by omega⟩ (by omega)
  k_with "exec While Compare cons nil" => k_while (fun _ r p => 0 ≤ p ∧ p < 12 ∧ 0 ≤ r ∧ S p + r = r0) (fun _ r p => (12 - p).toNat) "rest" "place"
  refine wpAny_call ?_
  k_dflt (refine' code_def (binds := [(Str.ofString "rest", .int r0 t), (Str.ofString "sizes", .ref sl)]) ?k1 ?k2 ?k3 ?k4 ?k5 ?kA ?kF ?kK ?k6 ?k7 ?k8 ?k9 ?kB ?_ ?c2 ?c3 ?c4 ?c5; (case kA => exact rfl); (case kF => exact rfl); (case kK => assumption); (case k1 => k_asm); (case k2 => k_asm); (case k3 => k_asm); (case k4 => k_asm); (case k5 => k_asm); (case k6 => k_is); (case k7 => k_is); (case k8 => ktr_room); (case k9 => exact BindsTo.of_eq rfl); (case c5 => decide); (case kB => exact locs rfl); (case c2 => exact rfl); (case c3 => exact rfl); (case c4 => exact rfl); k_whole; intro g' L' h' FG' F' N' B' X' T'; (try dsimp only [List.reverse_cons, List.reverse_nil, List.nil_append, List.cons_append, List.append_nil]); (try k_lift B'); (try k_fold))
  k_steps
  all_goals (first | exact endT2 hret (by k_asm) (by walk_at "my N") (by assumption) (by omega) | trace_state)
end Mine

end

section
open PySem PySem.W PyProof.Rows PySem.Spec PySem.Calls
set_option Elab.async false
set_option maxRecDepth 100000
namespace Mine
local macro_rules | `(tactic| walk_at "my pad") => `(tactic| skip)
local macro_rules | `(tactic| walk_at "eval Constant float") => `(tactic| (k_dflt (refine Flo.k_const Flo.half_lit ?_)))
local macro_rules | `(tactic| walk_at "binaryOp Sub float float") => `(tactic| (k_dflt ((fail_if_success (with_reducible show wpAny _ _ (binaryOp _ _ (Value.float (Flo.hf _) _)) _ _ _)); (fail_if_success (with_reducible show wpAny _ _ (binaryOp _ _ (Value.float Flo.TROP _)) _ _ _)); refine Flo.k_subL Flo.epg_lit ?_)))
local macro_rules | `(tactic| walk_at "binaryOp Sub float float") => `(tactic| (k_dflt ((fail_if_success (with_reducible show wpAny _ _ (binaryOp _ _ (Value.float (Flo.hf _) _)) _ _ _)); (fail_if_success (with_reducible show wpAny _ _ (binaryOp _ _ (Value.float Flo.TROP _)) _ _ _)); refine Flo.k_subL Flo.epp_lit ?_)))
local macro_rules | `(tactic| walk_at "binaryOp Sub int float") => `(tactic| (k_dflt ((fail_if_success (with_reducible show wpAny _ _ (binaryOp _ _ (Value.float (Flo.hf _) _)) _ _ _)); (fail_if_success (with_reducible show wpAny _ _ (binaryOp _ _ (Value.float Flo.TROP _)) _ _ _)); refine Flo.k_subL Flo.epp_lit ?_)))
local macro_rules | `(tactic| walk_at "binaryOp Sub float int") => `(tactic| (k_dflt ((fail_if_success (with_reducible show wpAny _ _ (binaryOp _ (Value.float (Flo.hf _) _) _) _ _ _)); (fail_if_success (with_reducible show wpAny _ _ (binaryOp _ (Value.float Flo.TROP _) _) _ _ _)); refine Flo.k_Lsub Flo.epg_lit ?_)))
local macro_rules | `(tactic| walk_at "binaryOp Sub float int") => `(tactic| (k_dflt ((fail_if_success (with_reducible show wpAny _ _ (binaryOp _ (Value.float (Flo.hf _) _) _) _ _ _)); (fail_if_success (with_reducible show wpAny _ _ (binaryOp _ (Value.float Flo.TROP _) _) _ _ _)); refine Flo.k_Lsub Flo.epp_lit ?_)))
local macro_rules | `(tactic| walk_at "binaryOp Mult float int") => `(tactic| (k_dflt ((fail_if_success (with_reducible show wpAny _ _ (binaryOp _ (Value.float (Flo.hf _) _) _) _ _ _)); (fail_if_success (with_reducible show wpAny _ _ (binaryOp _ (Value.float Flo.TROP _) _) _ _ _)); refine Flo.k_Lmul Flo.trop_lit ?_)))
local macro_rules | `(tactic| walk_at "binaryOp Div float float") => `(tactic| (k_dflt ((fail_if_success (with_reducible show wpAny _ _ (binaryOp _ _ (Value.float (Flo.hf _) _)) _ _ _)); (fail_if_success (with_reducible show wpAny _ _ (binaryOp _ _ (Value.float Flo.TROP _)) _ _ _)); refine Flo.k_divL Flo.trop_lit ?_)))
local macro_rules | `(tactic| walk_at "binaryOp Add int float") => `(tactic| (k_dflt ((fail_if_success (with_reducible show wpAny _ _ (binaryOp _ _ (Value.float (Flo.hf _) _)) _ _ _)); (fail_if_success (with_reducible show wpAny _ _ (binaryOp _ _ (Value.float Flo.TROP _)) _ _ _)); refine Flo.k_addL Flo.trop_lit ?_)))
local macro_rules | `(tactic| walk_at "binaryOp Add int bool") => `(tactic| (first | refine' Flo.k_addit ?_ | refine' Flo.k_addif0 ?_))
local macro_rules | `(tactic| walk_at "binaryOp Add float float") => `(tactic| ((with_reducible show wpAny _ _ (binaryOp _ (Value.float (Flo.hf _) _) (Value.float (Flo.hf _) _)) _ _ _); refine' Flo.k_addff ?_ ?a0 ?a1; (case a0 => k_dflt omega); (case a1 => k_dflt omega)))
local macro_rules | `(tactic| walk_at "binaryOp Sub float float") => `(tactic| ((with_reducible show wpAny _ _ (binaryOp _ (Value.float (Flo.hf _) _) (Value.float (Flo.hf _) _)) _ _ _); refine' Flo.k_subff ?_ ?a0 ?a1; (case a0 => k_dflt omega); (case a1 => k_dflt omega)))
local macro_rules | `(tactic| walk_at "binaryOp Add float int") => `(tactic| ((fail_if_success (with_reducible show wpAny _ _ (binaryOp _ (Value.float (Flo.hf _) _) _) _ _ _)); refine' Flo.k_addQi ?_ ?hq ?h1 ?h2 ?h3 ?h4; (case hq => with_reducible assumption); (case h1 => k_dflt decide); (case h2 => k_dflt decide); (case h3 => k_dflt omega); (case h4 => k_dflt omega); intro _ _))
local macro_rules | `(tactic| walk_at "binaryOp Add float int") => `(tactic| ((with_reducible show wpAny _ _ (binaryOp _ (Value.float (Flo.hf _) _) (Value.int _ _)) _ _ _); refine' Flo.k_addfi ?_ ?a ?b; (case a => k_dflt omega); (case b => k_dflt omega)))
local macro_rules | `(tactic| walk_at "binaryOp Add int float") => `(tactic| ((with_reducible show wpAny _ _ (binaryOp _ (Value.int _ _) (Value.float Flo.TROP _)) _ _ _); refine' Flo.k_addiX ?_ ?a0; (case a0 => k_dflt omega)))
local macro_rules | `(tactic| walk_at "binaryOp Add float int") => `(tactic| ((with_reducible show wpAny _ _ (binaryOp _ (Value.float (Float64.add _ _) _) (Value.int _ _)) _ _ _); refine' Flo.k_addXi ?_ ?a0; (case a0 => k_dflt omega)))
local macro_rules | `(tactic| walk_at "binaryOp Add int float") => `(tactic| ((with_reducible show wpAny _ _ (binaryOp _ (Value.int _ _) (Value.float (Flo.hf _) _)) _ _ _); refine' Flo.k_addif ?_ ?a0 ?a1; (case a0 => k_dflt omega); (case a1 => k_dflt omega)))
local macro_rules | `(tactic| walk_at "binaryOp Sub float int") => `(tactic| ((with_reducible show wpAny _ _ (binaryOp _ (Value.float (Flo.hf _) _) (Value.int _ _)) _ _ _); refine' Flo.k_subfi ?_ ?a0 ?a1; (case a0 => k_dflt omega); (case a1 => k_dflt omega)))
local macro_rules | `(tactic| walk_at "binaryOp Sub int float") => `(tactic| ((with_reducible show wpAny _ _ (binaryOp _ (Value.int _ _) (Value.float (Flo.hf _) _)) _ _ _); refine' Flo.k_subif ?_ ?a0 ?a1; (case a0 => k_dflt omega); (case a1 => k_dflt omega)))
local macro_rules | `(tactic| walk_at "binaryOp Mult float int") => `(tactic| ((with_reducible show wpAny _ _ (binaryOp _ (Value.float (Flo.hf _) _) (Value.int _ _)) _ _ _); refine' Flo.k_mulfi ?_ ?a0 ?a1 ?a2 ?a3; (case a0 => k_dflt omega); (case a1 => k_dflt omega); (case a2 => k_dflt decide); (case a3 => k_dflt decide)))
local macro_rules | `(tactic| walk_at "binaryOp Mult float int") => `(tactic| ((with_reducible show wpAny _ _ (binaryOp _ (Value.float Flo.TROP _) (Value.int _ _)) _ _ _); refine' Flo.k_mulT ?_ ?a0; (case a0 => k_dflt omega)))
local macro_rules | `(tactic| walk_at "binaryOp Mod float int") => `(tactic| ((with_reducible show wpAny _ _ (binaryOp _ (Value.float (Flo.hf _) _) (Value.int _ _)) _ _ _); refine' Flo.k_modfi ?_ ?a0 ?a1 ?a2 ?a3; (case a0 => k_dflt omega); (case a1 => k_dflt omega); (case a2 => k_dflt decide); (case a3 => k_dflt decide); intro _ _ _ _ _))
local macro_rules | `(tactic| walk_at "binaryOp Mod float int") => `(tactic| ((with_reducible show wpAny _ _ (binaryOp _ (Value.float (Flo.hf (2 * _)) _) (Value.int _ _)) _ _ _); refine' Flo.k_modfi2 ?_ ?a0 ?a1 ?a2; (case a0 => k_dflt omega); (case a1 => k_dflt decide); (case a2 => k_dflt decide)))
local macro_rules | `(tactic| walk_at "binaryOp Div float int") => `(tactic| ((with_reducible show wpAny _ _ (binaryOp _ (Value.float (Flo.hf _) _) (Value.int _ _)) _ _ _); refine' Flo.k_divfi ?_ ?a0 ?a1 ?a2 ?a3; (case a0 => k_dflt omega); (case a1 => k_dflt omega); (case a2 => k_dflt decide); (case a3 => k_dflt decide); intro _ _ _ _))
local macro_rules | `(tactic| walk_at "binaryOp Div float int") => `(tactic| ((with_reducible show wpAny _ _ (binaryOp _ (Value.float (Flo.hf (2 * _)) _) (Value.int _ _)) _ _ _); refine' Flo.k_divfi2 ?_ ?a0 ?a1 ?a2; (case a0 => k_dflt omega); (case a1 => k_dflt decide); (case a2 => k_dflt decide); intro _ _))
local macro_rules | `(tactic| walk_at "binaryOp Div float float") => `(tactic| ((with_reducible show wpAny _ _ (binaryOp _ (Value.float (Flo.hf _) _) (Value.float Flo.TROP _)) _ _ _); refine Flo.k_divT ?_))
local macro_rules | `(tactic| walk_at "binaryOp Div int int") => `(tactic| (refine' Flo.k_divii ?_ ?a0 ?a1 ?a2; (case a0 => k_dflt omega); (case a1 => k_dflt decide); (case a2 => k_dflt decide); intro _ _))
local macro_rules | `(tactic| walk_at "call builtin:math.floor") => `(tactic| ((with_reducible show wpAny _ _ (call _ [(Value.float (Flo.hf _) _)]) _ _ _); refine' Flo.k_floorH ?_ ?h1 ?h2; (case h1 => k_dflt omega); (case h2 => k_dflt exact rfl); intro _ _ _))
local macro_rules | `(tactic| walk_at "call builtin:math.floor") => `(tactic| ((fail_if_success (with_reducible show wpAny _ _ (call _ [(Value.float (Flo.hf _) _)]) _ _ _)); refine' Flo.k_floorQ ?hq ?_ ?h1 ?h2 ?h3; (case hq => with_reducible assumption); (case h1 => k_dflt decide); (case h2 => k_dflt decide); (case h3 => k_dflt exact rfl); intro _ _ _))
local macro_rules | `(tactic| walk_at "call builtin:math.floor") => `(tactic| ((fail_if_success (with_reducible show wpAny _ _ (call _ [(Value.float (Flo.hf _) _)]) _ _ _)); refine' Flo.k_floorFl ?hq ?_ ?h3; (case hq => with_reducible assumption); (case h3 => k_dflt exact rfl)))
local macro_rules | `(tactic| walk_at "call builtin:math.ceil") => `(tactic| ((fail_if_success (with_reducible show wpAny _ _ (call _ [(Value.float (Flo.hf _) _)]) _ _ _)); refine' Flo.k_ceilQ ?hq ?_ ?h1 ?h2 ?h3; (case hq => with_reducible assumption); (case h1 => k_dflt decide); (case h2 => k_dflt decide); (case h3 => k_dflt exact rfl); intro _ _ _))
local macro_rules | `(tactic| walk_at "call builtin:round") => `(tactic| ((fail_if_success (with_reducible show wpAny _ _ (call _ [(Value.float (Flo.hf _) _)]) _ _ _)); refine' Flo.k_round ?hq ?_ ?h3; (case hq => with_reducible assumption); (case h3 => k_dflt exact rfl)))
local macro_rules | `(tactic| walk_at "call type:int") => `(tactic| ((with_reducible show wpAny _ _ (call _ [(Value.float (Flo.hf _) _)]) _ _ _); refine' Flo.k_intH ?_ ?h1 ?h2; (case h1 => k_dflt omega); (case h2 => k_dflt omega); intro _ _))
local macro_rules | `(tactic| walk_at "compareOp Lt float int") => `(tactic| ((with_reducible show wpAny _ _ (compareOp _ (Value.float (Flo.hf _) _) (Value.int _ _)) _ _ _); refine' Flo.k_ltfi ?_ ?h1; (case h1 => k_dflt omega)))
local macro_rules | `(tactic| walk_at "compareOp LtE float int") => `(tactic| ((with_reducible show wpAny _ _ (compareOp _ (Value.float (Flo.hf _) _) (Value.int _ _)) _ _ _); refine' Flo.k_lefi ?_ ?h1; (case h1 => k_dflt omega)))
local macro_rules | `(tactic| walk_at "compareOp Gt float int") => `(tactic| ((with_reducible show wpAny _ _ (compareOp _ (Value.float (Flo.hf _) _) (Value.int _ _)) _ _ _); refine' Flo.k_gtfi ?_ ?h1; (case h1 => k_dflt omega)))
local macro_rules | `(tactic| walk_at "compareOp NotEq float float") => `(tactic| ((with_reducible show wpAny _ _ (compareOp _ (Value.float (Flo.hf _) _) (Value.float (Flo.hf _) _)) _ _ _); refine' Flo.k_neff ?_ ?h1 ?h2; (case h1 => k_dflt omega); (case h2 => k_dflt omega)))
local macro_rules | `(tactic| walk_at "compareOp Gt int float") => `(tactic| (refine' Flo.k_gtiF ?hq ?_; (case hq => with_reducible assumption)))
local macro_rules | `(tactic| walk_at "compareOp LtE int float") => `(tactic| (refine' Flo.k_leiF ?hq ?_; (case hq => with_reducible assumption)))
local macro_rules | `(tactic| walk_at "compareOp Lt float int") => `(tactic| ((fail_if_success (with_reducible show wpAny _ _ (compareOp _ (Value.float (Flo.hf _) _) _) _ _ _)); refine' Flo.k_ltFi ?hq ?_; (case hq => with_reducible assumption)))
local macro_rules | `(tactic| walk_at "eval Call") => `(tactic| (k_dflt (refine Call_ ?_)))
local macro_rules | `(tactic| walk_at "execs cons") => `(tactic| (k_here; (with_reducible refine gen_tk ?_); intro _; (with_reducible refine wpAny_execs_cons ?_); (try dsimp only)))
local macro_rules | `(tactic| walk_at "my need") => `(tactic| first | with_reducible exact need_nil | with_reducible assumption | ((repeat (with_reducible refine need_cons ?_)); with_reducible assumption))
local macro_rules | `(tactic| walk_at "my N") => `(tactic| first | k_asm | ((rename News _ _ _ _ => nE'); exact fun p hp => nE' p (by (repeat (first | with_reducible exact hp | with_reducible refine List.mem_cons_of_mem _ ?_)))))

/-- the ledger bears the tuple -/
def TupIn (ax : Addr) (its : Array Value) (nw : Led) : Prop := ∃ k, (ax, ({ cls := .type "tuple", data := .seq its k } : Obj)) ∈ nw
section
variable {prog : Program} {w : World} {A : Around} {E : Value → Shared → Prop} {s : Shared} {h₀ : Heap} {L : Addr} {m : Str → Option Value} {env : Env}
theorem TupIn.tup {ax : Addr} {its : Array Value} {nw : Led} {h : Heap} (x : TupIn ax its nw) (N : News h₀ L h nw) : h.IsTuple ax its := let ⟨k, hm⟩ := x; ⟨_, (N _ hm).1, rfl, k, rfl⟩
/-- what is wanted of a comprehension's source that is a tuple: its turns -/
def TupTurns (prog : Program) (w : World) (A : Around) (h₀ : Heap) (L : Addr) (m : Str → Option Value) (env : Env) (ct elt : Expr) (x : Str) (scope : Scope) (cl : List (Str × Addr)) (Q : Value → Shared → Prop) (xv : Value) (s₁ : Shared) : Prop :=
  ∃ ax its news, xv = .ref ax ∧ A.handled = none ∧ Fr h₀ L s₁.heap m ∧ News h₀ L s₁.heap news ∧ TupIn ax its news ∧ its.size ≤ sizeLine ∧
    ∀ g : Heap, LCt.CompRestT prog w A h₀ L m env ct elt x scope cl { s₁ with heap := g } (TupIn ax its) (fun i v => its[i]? = some v) (LCg.FinE h₀ L m { s₁ with heap := g } Q) its.size 0 [] news
theorem TupTurns.intro {ct elt : Expr} {x : Str} {scope : Scope} {cl : List (Str × Addr)} {Q : Value → Shared → Prop} {ax : Addr} {its : Array Value} {k : Nat} {news : Led} {s₁ : Shared}
    (hh : A.handled = none) (F : Fr h₀ L s₁.heap m) (N : News h₀ L s₁.heap news) (hm : (ax, ({ cls := .type "tuple", data := .seq its k } : Obj)) ∈ news) (hsz : its.size ≤ sizeLine)
    (h : ∀ g, LCt.CompRestT prog w A h₀ L m env ct elt x scope cl { s₁ with heap := g } (TupIn ax its) (fun i v => its[i]? = some v) (LCg.FinE h₀ L m { s₁ with heap := g } Q) its.size 0 [] news) :
    TupTurns prog w A h₀ L m env ct elt x scope cl Q (.ref ax) s₁ := ⟨ax, its, news, rfl, hh, F, N, ⟨k, hm⟩, hsz, h⟩
theorem tupleComp {ct elt iter : Expr} {x : Str} {px : Pos} {scope : Scope} {cl : List (Str × Addr)} {pos : Pos} {Q : Value → Shared → Prop} (_F₀ : Fr h₀ L s.heap m)
    (hclos : closureFor scope env = pure cl) (hcell : ∀ y ∈ scope.names, y.2 ≠ .cell) (hkind : scope.kind = .function)
    (hnames : ∀ y ∈ scope.names, y.2 = .local → scope.names.lookup y.1 = some .local) (hx : scope.names.lookup x = some .local)
    (h : wpAny (model prog w) A (eval iter env) (TupTurns prog w A h₀ L m env ct elt x scope cl Q) E s)
    (hs : ∀ x, foldedSetIterable iter env x = pure x := by intro _; rfl) :
    wpAny (model prog w) A (eval (.ListComp elt [⟨.Name x px, iter, [ct], 0⟩] scope pos) env) Q E s := by
  rw [eval_ListComp]
  refine wpAny_comprehension_free (use := none) rfl hs hclos hkind hnames (wpAny_mono h (fun xv s₁ h₁ => ?_) fun _ _ e => e)
  obtain ⟨ax, its, news, rfl, hh, F, N, hT, hsz, R⟩ := h₁
  have ht := hT.tup N
  have hlt : ax < s₁.heap.objs.size := by obtain ⟨_, e, _⟩ := ht; exact Heap.lt_size e
  refine wpAny_pyIter_tuple ht ?_
  have up : ∀ b o, s₁.heap.get? b = some o → (s₁.heap.push { cls := .type "tuple_iterator", data := .fields #[.ref ax, .int 0 0] }).get? b = some o := fun b o e => Heap.get?_push_of_some _ e
  have hI : (s₁.heap.push { cls := .type "tuple_iterator", data := .fields #[.ref ax, .int 0 0] }).objs.size = s₁.heap.objs.size + 1 := Heap.size_push _ _
  refine LCt.block_T (Walks.tuple hh s₁.heap.objs.size ax (Nat.ne_of_lt hlt) its) hsz (fun i h st => by obtain ⟨o, e, _⟩ := st.1; exact ⟨o, e⟩)
    (fun i h h' o nw st e e' _ N' S => ⟨by obtain ⟨o', q, r⟩ := st.1; rw [e] at q; cases q; exact ⟨o, e', r⟩, S.tup N'⟩) hcell hkind hx
    ⟨⟨_, Heap.get?_push_size _ rfl, rfl, rfl⟩, let ⟨o, e, r⟩ := ht; ⟨o, up _ _ e, r⟩⟩ (fun b hb => ?_)
    (F.keeps up) (N.grown up) (Nat.ne_of_lt F.ns.lt) (next_is_new F) (fun p hp => Nat.ne_of_lt (Heap.lt_size (N p hp).1)) hT (R _) ?_
  · show b < (s₁.heap.push _).objs.size
    rw [hI]
    rcases List.mem_cons.mp hb with rfl | hb
    · exact Nat.lt_succ_self _
    · rw [List.mem_singleton.mp hb]; exact Nat.lt_succ_of_lt hlt
  · intro D C g tk m' ys news' F' N' o1 hn hC₀ _ hCL _ hCD offC fin
    refine ⟨m', hn, fun g' hg' => fin D g' tk (F'.change hg' hCL hC₀) (fun p hp => ?_) o1⟩
    have hne : p.1 ≠ C := by
      rcases List.mem_cons.mp hp with rfl | hp
      · exact Ne.symm hCD
      · exact offC p hp
    exact ⟨hg'.extBut _ _ hne (N' p hp).1, (N' p hp).2⟩
end
local macro_rules | `(tactic| walk_at "eval ListComp") => `(tactic| (k_here; k_dflt (refine tupleComp (by k_asm) (by with_unfolding_all rfl) (by decide) (by rfl) (by decide) (by rfl) ?_)))
local macro_rules | `(tactic| walk_at "TupTurns") => `(tactic| (k_here; k_dflt (refine TupTurns.intro (by rfl) (by k_asm) (by k_asm) (by k_mem) (by first | size_fits | exact Nat.le_of_ble_eq_true rfl) ?_; intro g'; lct_lit)))

local macro_rules | `(tactic| walk_at "CompEnd") => `(tactic| (k_here; k_dflt (refine' LCg.CompEnd.intro ?F ?N _ (fun _ hp => hp) ?off ?S ?_; (case F => k_asm); (case N => k_asm); (case off => assumption); (case S => exact ⟨_, by k_mem⟩))))

theorem law_absurd {y : Int} {P : Prop} (h4 : y.fmod 4 ≠ 0) (h100 : y.fmod 100 = 0) : P := by
  rw [Int.fmod_eq_emod_of_nonneg y (by decide : (0 : Int) ≤ 4)] at h4
  rw [Int.fmod_eq_emod_of_nonneg y (by decide : (0 : Int) ≤ 100)] at h100
  omega
theorem law_count {y p q r : Int} (h4 : (y.fmod 4 = 0 ∧ p = 1) ∨ (¬ y.fmod 4 = 0 ∧ p = 0)) (h100 : (y.fmod 100 = 0 ∧ q = 1) ∨ (¬ y.fmod 100 = 0 ∧ q = 0)) (h400 : (y.fmod 400 = 0 ∧ r = 1) ∨ (¬ y.fmod 400 = 0 ∧ r = 0)) : 365 + Int.fmod (p + q + r) 2 = 365 + lp y := by
  rw [Int.fmod_eq_emod_of_nonneg y (by decide : (0 : Int) ≤ 4)] at h4
  rw [Int.fmod_eq_emod_of_nonneg y (by decide : (0 : Int) ≤ 100)] at h100
  rw [Int.fmod_eq_emod_of_nonneg y (by decide : (0 : Int) ≤ 400)] at h400
  rw [Int.fmod_eq_emod_of_nonneg _ (by decide : (0 : Int) ≤ 2)]
  rcases lp_cases y with ⟨e, h⟩ | ⟨e, h⟩ <;> rw [e] <;> omega

set_option maxHeartbeats 4000000 in
theorem c_lawyear (w : World) (y : Int) (t : Tok) : Says w [] 156 [.int y t] 2 24 (RetI (365 + lp y)) := by
  unfold Says
  k_fill
  intro pg loose mean mg mb news dp un gd cn cs a ccd cl outer A₀ base h₀ L mm s Q E B F X N T hk hn9 hd9 hu9 hret
  refine wpAny_call ?_
  k_dflt (refine' code_defC (binds := [(Str.ofString "year", .int y t)]) ?k1 ?k2 ?k3 ?k4 ?k5 ?kA ?kF ?kK ?k6 ?k7 ?k8 ?k9 ?kB ?kD ?_ ?c2 ?c3 ?c4; (case kA => exact rfl); (case kF => exact rfl); (case kK => assumption); (case k1 => k_asm); (case k2 => k_asm); (case k3 => k_asm); (case k4 => k_asm); (case k5 => k_asm); (case k6 => k_is); (case k7 => k_is); (case k8 => ktr_room); (case k9 => exact BindsTo.of_eq rfl); (case kB => exact rfl); (case kD => decide +kernel); (case c2 => exact rfl); (case c3 => exact rfl); (case c4 => exact rfl); k_whole; intro g' L' h' tk' cells' FG' F' N' Y' B' X' T' l1; (try k_lt l1); k_cells Y'; (try simp only [List.cons_append, List.nil_append] at N'); (try dsimp only); (try k_lift B'); (try k_fold))
  k_steps
  all_goals (refine endI hret (by k_asm) (by walk_at "my N") ?_)
  all_goals (first | exact law_count (p := 1) (q := 1) (r := 1) (.inl ⟨by assumption, rfl⟩) (.inl ⟨by assumption, rfl⟩) (.inl ⟨by assumption, rfl⟩) | exact law_count (p := 1) (q := 1) (r := 0) (.inl ⟨by assumption, rfl⟩) (.inl ⟨by assumption, rfl⟩) (.inr ⟨by assumption, rfl⟩) | exact law_count (p := 1) (q := 0) (r := 1) (.inl ⟨by assumption, rfl⟩) (.inr ⟨by assumption, rfl⟩) (.inl ⟨by assumption, rfl⟩) | exact law_count (p := 1) (q := 0) (r := 0) (.inl ⟨by assumption, rfl⟩) (.inr ⟨by assumption, rfl⟩) (.inr ⟨by assumption, rfl⟩) | exact law_count (p := 0) (q := 1) (r := 1) (.inr ⟨by assumption, rfl⟩) (.inl ⟨by assumption, rfl⟩) (.inl ⟨by assumption, rfl⟩) | exact law_count (p := 0) (q := 1) (r := 0) (.inr ⟨by assumption, rfl⟩) (.inl ⟨by assumption, rfl⟩) (.inr ⟨by assumption, rfl⟩) | exact law_count (p := 0) (q := 0) (r := 1) (.inr ⟨by assumption, rfl⟩) (.inr ⟨by assumption, rfl⟩) (.inl ⟨by assumption, rfl⟩) | exact law_count (p := 0) (q := 0) (r := 0) (.inr ⟨by assumption, rfl⟩) (.inr ⟨by assumption, rfl⟩) (.inr ⟨by assumption, rfl⟩) | exact law_absurd (by assumption) (by assumption))
end Mine

end

section
open PySem PySem.W PyProof.Rows PySem.Spec PySem.Calls
set_option maxRecDepth 100000
namespace Mine
/-- the state behind some turns: c centuries, q spans of four years -/
def Roman1 (R Y : Int) (n : Nat) (r y : Int) : Prop := ∃ c : Int, 0 ≤ c ∧ c ≤ n ∧ r = R - 36524 * c ∧ y = Y + 100 * c ∧ (c < n → r < 36524) ∧ 0 ≤ r
def Roman2 (R Y : Int) (n : Nat) (r y : Int) : Prop := ∃ c q : Int, 0 ≤ c ∧ c ≤ 3 ∧ R - 36524 * c ≤ 36524 ∧ 0 ≤ q ∧ q ≤ n ∧ r = R - 36524 * c - 1461 * q ∧ y = Y + 100 * c + 4 * q ∧ (q < n → r < 1461) ∧ 0 ≤ r
theorem roman1_0 {R Y : Int} (h : 0 ≤ R) : Roman1 R Y 0 R Y := ⟨0, by omega, by omega, by omega, by omega, by omega, by omega⟩
theorem roman1_no {R Y r y : Int} {n : Nat} (h : Roman1 R Y n r y) (hr : r < 36524) : Roman1 R Y (n + 1) r y := by
  obtain ⟨c, h⟩ := h
  exact ⟨c, by omega, by omega, by omega, by omega, by omega, by omega⟩
theorem roman1_yes {R Y r y : Int} {n : Nat} (h : Roman1 R Y n r y) (hr : 36524 ≤ r) : Roman1 R Y (n + 1) (r - 36524) (y + 100) := by
  obtain ⟨c, h⟩ := h
  exact ⟨c + 1, by omega, by omega, by omega, by omega, by omega, by omega⟩
theorem roman2_0 {R Y r y : Int} (h : Roman1 R Y 3 r y) (hR : R < 146097) : Roman2 R Y 0 r y := by
  obtain ⟨c, h⟩ := h
  exact ⟨c, 0, by omega, by omega, by omega, by omega, by omega, by omega, by omega, by omega, by omega⟩
theorem roman2_no {R Y r y : Int} {n : Nat} (h : Roman2 R Y n r y) (hr : r < 1461) : Roman2 R Y (n + 1) r y := by
  obtain ⟨c, q, h⟩ := h
  exact ⟨c, q, by omega, by omega, by omega, by omega, by omega, by omega, by omega, by omega, by omega⟩
theorem roman2_yes {R Y r y : Int} {n : Nat} (h : Roman2 R Y n r y) (hr : 1461 ≤ r) : Roman2 R Y (n + 1) (r - 1461) (y + 4) := by
  obtain ⟨c, q, h⟩ := h
  exact ⟨c, q + 1, by omega, by omega, by omega, by omega, by omega, by omega, by omega, by omega, by omega⟩
theorem roman_end {D r y : Int} (h : Roman2 ((D - 1721426).fmod 146097) (400 * (D - 1721426).fdiv 146097 + 1) 24 r y) : 0 ≤ r ∧ yo y + r = D := by
  obtain ⟨c, q, h⟩ := h
  rw [Int.fmod_eq_emod_of_nonneg _ (by decide : (0 : Int) ≤ 146097), Int.fdiv_eq_ediv_of_nonneg _ (by decide : (0 : Int) ≤ 146097)] at h
  generalize hl : (D - 1721426) / 146097 = l at *
  generalize hR : (D - 1721426) % 146097 = R at *
  have e0 : D - 1721426 = 146097 * l + R := by omega
  obtain ⟨h1, h2, h3, h4, h5, h6, h7, h8, h9⟩ := h
  have e1 : (y - 1) / 4 = 100 * l + 25 * c + q := by omega
  have e2 : (y - 1) / 100 = 4 * l + c := by omega
  have e3 : (y - 1) / 400 = l := by omega
  refine ⟨h9, ?_⟩
  unfold yo
  rw [e1, e2, e3]
  omega
theorem roman_step {D r y : Int} (h : 0 ≤ r ∧ yo y + r = D) (hr : 365 + lp y ≤ r) : 0 ≤ r - (365 + lp y) ∧ yo (y + 1) + (r - (365 + lp y)) = D := by
  rw [yo_succ]
  omega
theorem roman_less {r y : Int} (hr : 365 + lp y ≤ r) : (r - (365 + lp y)).toNat < r.toNat := by
  have := lp_le y
  omega
theorem twelve_roman {y x : Int} {t0 t1 t2 t3 t4 t5 t6 t7 t8 t9 ta tb : Tok} (hx : x = 28 + lp y) : Twelve [.int 31 t0, .int x t1, .int 31 t2, .int 30 t3, .int 31 t4, .int 30 t5, .int 31 t6, .int 31 t7, .int 30 t8, .int 31 t9, .int 30 ta, .int 31 tb] (fun p => ml y (p + 1)) := by
  subst hx
  refine ⟨rfl, fun p h0 h1 => ?_⟩
  have : p = 0 ∨ p = 1 ∨ p = 2 ∨ p = 3 ∨ p = 4 ∨ p = 5 ∨ p = 6 ∨ p = 7 ∨ p = 8 ∨ p = 9 ∨ p = 10 ∨ p = 11 := by omega
  rcases this with h | h | h | h | h | h | h | h | h | h | h | h <;> subst h <;> exact ⟨_, rfl⟩
theorem twelve_roman' {y : Int} {t0 t1 t2 t3 t4 t5 t6 t7 t8 t9 ta tb : Tok} : Twelve [.int 31 t0, .int (365 + lp y - 337) t1, .int 31 t2, .int 30 t3, .int 31 t4, .int 30 t5, .int 31 t6, .int 31 t7, .int 30 t8, .int 31 t9, .int 30 ta, .int 31 tb] (fun p => ml y (p + 1)) := twelve_roman (by omega)
theorem sums_roman (y : Int) : SumsOf (fun p => cum (p + 1) (lp y)) (fun p => ml y (p + 1)) := by
  refine ⟨rfl, fun p h0 h1 => ?_⟩
  have : p = 0 ∨ p = 1 ∨ p = 2 ∨ p = 3 ∨ p = 4 ∨ p = 5 ∨ p = 6 ∨ p = 7 ∨ p = 8 ∨ p = 9 ∨ p = 10 ∨ p = 11 := by omega
  rcases this with h | h | h | h | h | h | h | h | h | h | h | h <;> subst h <;> simp [cum, ml] <;> omega
theorem roman_top {r y : Int} (h : r < 365 + lp y) : r < (fun p => cum (p + 1) (lp y)) 12 := by
  show r < cum 13 (lp y)
  unfold cum
  rw [if_neg (by omega)]
  omega
theorem roman_date {D r0 p r y : Int} (h : 0 ≤ r0 ∧ yo y + r0 = D) (P : 0 ≤ p ∧ p < 12 ∧ 0 ≤ r ∧ r < ml y (p + 1) ∧ cum (p + 1) (lp y) + r = r0) : IsDate D y (p + 1) (r + 1) := by
  unfold IsDate gjd
  omega
theorem news_keep {h₀ h : Heap} {L : Addr} {news : Led} {q a : Addr × Obj} (N : News h₀ L h (q :: a :: news)) : News h₀ L h (q :: news) := fun p hp => N p (by
  rcases List.mem_cons.mp hp with h | h
  · rw [h]; exact .head _
  · exact .tail _ (.tail _ h))
theorem news_swap {h₀ h : Heap} {L : Addr} {own news : Led} {a b c d : Addr × Obj} (N : News h₀ L h (a :: b :: c :: d :: (own ++ news))) : News h₀ L h (own ++ (a :: b :: c :: d :: news)) := fun p hp => N p (by
  simp only [List.mem_append, List.mem_cons] at hp ⊢
  rcases hp with h | h | h | h | h | h
  · exact .inr (.inr (.inr (.inr (.inl h))))
  · exact .inl h
  · exact .inr (.inl h)
  · exact .inr (.inr (.inl h))
  · exact .inr (.inr (.inr (.inl h)))
  · exact .inr (.inr (.inr (.inr (.inr h)))))
end Mine

end

section
open PySem PySem.W PyProof.Rows PySem.Spec PySem.Calls
set_option Elab.async false
set_option maxRecDepth 100000
namespace Mine
local macro_rules | `(tactic| walk_at "eval Constant float") => `(tactic| (k_dflt (refine Flo.k_const Flo.half_lit ?_)))
local macro_rules | `(tactic| walk_at "binaryOp Sub float float") => `(tactic| (k_dflt ((fail_if_success (with_reducible show wpAny _ _ (binaryOp _ _ (Value.float (Flo.hf _) _)) _ _ _)); (fail_if_success (with_reducible show wpAny _ _ (binaryOp _ _ (Value.float Flo.TROP _)) _ _ _)); refine Flo.k_subL Flo.epg_lit ?_)))
local macro_rules | `(tactic| walk_at "binaryOp Sub float float") => `(tactic| (k_dflt ((fail_if_success (with_reducible show wpAny _ _ (binaryOp _ _ (Value.float (Flo.hf _) _)) _ _ _)); (fail_if_success (with_reducible show wpAny _ _ (binaryOp _ _ (Value.float Flo.TROP _)) _ _ _)); refine Flo.k_subL Flo.epp_lit ?_)))
local macro_rules | `(tactic| walk_at "binaryOp Sub int float") => `(tactic| (k_dflt ((fail_if_success (with_reducible show wpAny _ _ (binaryOp _ _ (Value.float (Flo.hf _) _)) _ _ _)); (fail_if_success (with_reducible show wpAny _ _ (binaryOp _ _ (Value.float Flo.TROP _)) _ _ _)); refine Flo.k_subL Flo.epp_lit ?_)))
local macro_rules | `(tactic| walk_at "binaryOp Sub float int") => `(tactic| (k_dflt ((fail_if_success (with_reducible show wpAny _ _ (binaryOp _ (Value.float (Flo.hf _) _) _) _ _ _)); (fail_if_success (with_reducible show wpAny _ _ (binaryOp _ (Value.float Flo.TROP _) _) _ _ _)); refine Flo.k_Lsub Flo.epg_lit ?_)))
local macro_rules | `(tactic| walk_at "binaryOp Sub float int") => `(tactic| (k_dflt ((fail_if_success (with_reducible show wpAny _ _ (binaryOp _ (Value.float (Flo.hf _) _) _) _ _ _)); (fail_if_success (with_reducible show wpAny _ _ (binaryOp _ (Value.float Flo.TROP _) _) _ _ _)); refine Flo.k_Lsub Flo.epp_lit ?_)))
local macro_rules | `(tactic| walk_at "binaryOp Mult float int") => `(tactic| (k_dflt ((fail_if_success (with_reducible show wpAny _ _ (binaryOp _ (Value.float (Flo.hf _) _) _) _ _ _)); (fail_if_success (with_reducible show wpAny _ _ (binaryOp _ (Value.float Flo.TROP _) _) _ _ _)); refine Flo.k_Lmul Flo.trop_lit ?_)))
local macro_rules | `(tactic| walk_at "binaryOp Div float float") => `(tactic| (k_dflt ((fail_if_success (with_reducible show wpAny _ _ (binaryOp _ _ (Value.float (Flo.hf _) _)) _ _ _)); (fail_if_success (with_reducible show wpAny _ _ (binaryOp _ _ (Value.float Flo.TROP _)) _ _ _)); refine Flo.k_divL Flo.trop_lit ?_)))
local macro_rules | `(tactic| walk_at "binaryOp Add int float") => `(tactic| (k_dflt ((fail_if_success (with_reducible show wpAny _ _ (binaryOp _ _ (Value.float (Flo.hf _) _)) _ _ _)); (fail_if_success (with_reducible show wpAny _ _ (binaryOp _ _ (Value.float Flo.TROP _)) _ _ _)); refine Flo.k_addL Flo.trop_lit ?_)))
local macro_rules | `(tactic| walk_at "binaryOp Add int bool") => `(tactic| (first | refine' Flo.k_addit ?_ | refine' Flo.k_addif0 ?_))
local macro_rules | `(tactic| walk_at "binaryOp Add float float") => `(tactic| ((with_reducible show wpAny _ _ (binaryOp _ (Value.float (Flo.hf _) _) (Value.float (Flo.hf _) _)) _ _ _); refine' Flo.k_addff ?_ ?a0 ?a1; (case a0 => k_dflt omega); (case a1 => k_dflt omega)))
local macro_rules | `(tactic| walk_at "binaryOp Sub float float") => `(tactic| ((with_reducible show wpAny _ _ (binaryOp _ (Value.float (Flo.hf _) _) (Value.float (Flo.hf _) _)) _ _ _); refine' Flo.k_subff ?_ ?a0 ?a1; (case a0 => k_dflt omega); (case a1 => k_dflt omega)))
local macro_rules | `(tactic| walk_at "binaryOp Add float int") => `(tactic| ((fail_if_success (with_reducible show wpAny _ _ (binaryOp _ (Value.float (Flo.hf _) _) _) _ _ _)); refine' Flo.k_addQi ?_ ?hq ?h1 ?h2 ?h3 ?h4; (case hq => with_reducible assumption); (case h1 => k_dflt decide); (case h2 => k_dflt decide); (case h3 => k_dflt omega); (case h4 => k_dflt omega); intro _ _))
local macro_rules | `(tactic| walk_at "binaryOp Add float int") => `(tactic| ((with_reducible show wpAny _ _ (binaryOp _ (Value.float (Flo.hf _) _) (Value.int _ _)) _ _ _); refine' Flo.k_addfi ?_ ?a ?b; (case a => k_dflt omega); (case b => k_dflt omega)))
local macro_rules | `(tactic| walk_at "binaryOp Add int float") => `(tactic| ((with_reducible show wpAny _ _ (binaryOp _ (Value.int _ _) (Value.float Flo.TROP _)) _ _ _); refine' Flo.k_addiX ?_ ?a0; (case a0 => k_dflt omega)))
local macro_rules | `(tactic| walk_at "binaryOp Add float int") => `(tactic| ((with_reducible show wpAny _ _ (binaryOp _ (Value.float (Float64.add _ _) _) (Value.int _ _)) _ _ _); refine' Flo.k_addXi ?_ ?a0; (case a0 => k_dflt omega)))
local macro_rules | `(tactic| walk_at "binaryOp Add int float") => `(tactic| ((with_reducible show wpAny _ _ (binaryOp _ (Value.int _ _) (Value.float (Flo.hf _) _)) _ _ _); refine' Flo.k_addif ?_ ?a0 ?a1; (case a0 => k_dflt omega); (case a1 => k_dflt omega)))
local macro_rules | `(tactic| walk_at "binaryOp Sub float int") => `(tactic| ((with_reducible show wpAny _ _ (binaryOp _ (Value.float (Flo.hf _) _) (Value.int _ _)) _ _ _); refine' Flo.k_subfi ?_ ?a0 ?a1; (case a0 => k_dflt omega); (case a1 => k_dflt omega)))
local macro_rules | `(tactic| walk_at "binaryOp Sub int float") => `(tactic| ((with_reducible show wpAny _ _ (binaryOp _ (Value.int _ _) (Value.float (Flo.hf _) _)) _ _ _); refine' Flo.k_subif ?_ ?a0 ?a1; (case a0 => k_dflt omega); (case a1 => k_dflt omega)))
local macro_rules | `(tactic| walk_at "binaryOp Mult float int") => `(tactic| ((with_reducible show wpAny _ _ (binaryOp _ (Value.float (Flo.hf _) _) (Value.int _ _)) _ _ _); refine' Flo.k_mulfi ?_ ?a0 ?a1 ?a2 ?a3; (case a0 => k_dflt omega); (case a1 => k_dflt omega); (case a2 => k_dflt decide); (case a3 => k_dflt decide)))
local macro_rules | `(tactic| walk_at "binaryOp Mult float int") => `(tactic| ((with_reducible show wpAny _ _ (binaryOp _ (Value.float Flo.TROP _) (Value.int _ _)) _ _ _); refine' Flo.k_mulT ?_ ?a0; (case a0 => k_dflt omega)))
local macro_rules | `(tactic| walk_at "binaryOp Mod float int") => `(tactic| ((with_reducible show wpAny _ _ (binaryOp _ (Value.float (Flo.hf _) _) (Value.int _ _)) _ _ _); refine' Flo.k_modfi ?_ ?a0 ?a1 ?a2 ?a3; (case a0 => k_dflt omega); (case a1 => k_dflt omega); (case a2 => k_dflt decide); (case a3 => k_dflt decide); intro _ _ _ _ _))
local macro_rules | `(tactic| walk_at "binaryOp Mod float int") => `(tactic| ((with_reducible show wpAny _ _ (binaryOp _ (Value.float (Flo.hf (2 * _)) _) (Value.int _ _)) _ _ _); refine' Flo.k_modfi2 ?_ ?a0 ?a1 ?a2; (case a0 => k_dflt omega); (case a1 => k_dflt decide); (case a2 => k_dflt decide)))
local macro_rules | `(tactic| walk_at "binaryOp Div float int") => `(tactic| ((with_reducible show wpAny _ _ (binaryOp _ (Value.float (Flo.hf _) _) (Value.int _ _)) _ _ _); refine' Flo.k_divfi ?_ ?a0 ?a1 ?a2 ?a3; (case a0 => k_dflt omega); (case a1 => k_dflt omega); (case a2 => k_dflt decide); (case a3 => k_dflt decide); intro _ _ _ _))
local macro_rules | `(tactic| walk_at "binaryOp Div float int") => `(tactic| ((with_reducible show wpAny _ _ (binaryOp _ (Value.float (Flo.hf (2 * _)) _) (Value.int _ _)) _ _ _); refine' Flo.k_divfi2 ?_ ?a0 ?a1 ?a2; (case a0 => k_dflt omega); (case a1 => k_dflt decide); (case a2 => k_dflt decide); intro _ _))
local macro_rules | `(tactic| walk_at "binaryOp Div float float") => `(tactic| ((with_reducible show wpAny _ _ (binaryOp _ (Value.float (Flo.hf _) _) (Value.float Flo.TROP _)) _ _ _); refine Flo.k_divT ?_))
local macro_rules | `(tactic| walk_at "binaryOp Div int int") => `(tactic| (refine' Flo.k_divii ?_ ?a0 ?a1 ?a2; (case a0 => k_dflt omega); (case a1 => k_dflt decide); (case a2 => k_dflt decide); intro _ _))
local macro_rules | `(tactic| walk_at "call builtin:math.floor") => `(tactic| ((with_reducible show wpAny _ _ (call _ [(Value.float (Flo.hf _) _)]) _ _ _); refine' Flo.k_floorH ?_ ?h1 ?h2; (case h1 => k_dflt omega); (case h2 => k_dflt exact rfl); intro _ _ _))
local macro_rules | `(tactic| walk_at "call builtin:math.floor") => `(tactic| ((fail_if_success (with_reducible show wpAny _ _ (call _ [(Value.float (Flo.hf _) _)]) _ _ _)); refine' Flo.k_floorQ ?hq ?_ ?h1 ?h2 ?h3; (case hq => with_reducible assumption); (case h1 => k_dflt decide); (case h2 => k_dflt decide); (case h3 => k_dflt exact rfl); intro _ _ _))
local macro_rules | `(tactic| walk_at "call builtin:math.floor") => `(tactic| ((fail_if_success (with_reducible show wpAny _ _ (call _ [(Value.float (Flo.hf _) _)]) _ _ _)); refine' Flo.k_floorFl ?hq ?_ ?h3; (case hq => with_reducible assumption); (case h3 => k_dflt exact rfl)))
local macro_rules | `(tactic| walk_at "call builtin:math.ceil") => `(tactic| ((fail_if_success (with_reducible show wpAny _ _ (call _ [(Value.float (Flo.hf _) _)]) _ _ _)); refine' Flo.k_ceilQ ?hq ?_ ?h1 ?h2 ?h3; (case hq => with_reducible assumption); (case h1 => k_dflt decide); (case h2 => k_dflt decide); (case h3 => k_dflt exact rfl); intro _ _ _))
local macro_rules | `(tactic| walk_at "call builtin:round") => `(tactic| ((fail_if_success (with_reducible show wpAny _ _ (call _ [(Value.float (Flo.hf _) _)]) _ _ _)); refine' Flo.k_round ?hq ?_ ?h3; (case hq => with_reducible assumption); (case h3 => k_dflt exact rfl)))
local macro_rules | `(tactic| walk_at "call type:int") => `(tactic| ((with_reducible show wpAny _ _ (call _ [(Value.float (Flo.hf _) _)]) _ _ _); refine' Flo.k_intH ?_ ?h1 ?h2; (case h1 => k_dflt omega); (case h2 => k_dflt omega); intro _ _))
local macro_rules | `(tactic| walk_at "compareOp Lt float int") => `(tactic| ((with_reducible show wpAny _ _ (compareOp _ (Value.float (Flo.hf _) _) (Value.int _ _)) _ _ _); refine' Flo.k_ltfi ?_ ?h1; (case h1 => k_dflt omega)))
local macro_rules | `(tactic| walk_at "compareOp LtE float int") => `(tactic| ((with_reducible show wpAny _ _ (compareOp _ (Value.float (Flo.hf _) _) (Value.int _ _)) _ _ _); refine' Flo.k_lefi ?_ ?h1; (case h1 => k_dflt omega)))
local macro_rules | `(tactic| walk_at "compareOp Gt float int") => `(tactic| ((with_reducible show wpAny _ _ (compareOp _ (Value.float (Flo.hf _) _) (Value.int _ _)) _ _ _); refine' Flo.k_gtfi ?_ ?h1; (case h1 => k_dflt omega)))
local macro_rules | `(tactic| walk_at "compareOp NotEq float float") => `(tactic| ((with_reducible show wpAny _ _ (compareOp _ (Value.float (Flo.hf _) _) (Value.float (Flo.hf _) _)) _ _ _); refine' Flo.k_neff ?_ ?h1 ?h2; (case h1 => k_dflt omega); (case h2 => k_dflt omega)))
local macro_rules | `(tactic| walk_at "compareOp Gt int float") => `(tactic| (refine' Flo.k_gtiF ?hq ?_; (case hq => with_reducible assumption)))
local macro_rules | `(tactic| walk_at "compareOp LtE int float") => `(tactic| (refine' Flo.k_leiF ?hq ?_; (case hq => with_reducible assumption)))
local macro_rules | `(tactic| walk_at "compareOp Lt float int") => `(tactic| ((fail_if_success (with_reducible show wpAny _ _ (compareOp _ (Value.float (Flo.hf _) _) _) _ _ _)); refine' Flo.k_ltFi ?hq ?_; (case hq => with_reducible assumption)))
local macro_rules | `(tactic| walk_at "eval Call") => `(tactic| (k_dflt (refine Call_ ?_)))
local macro_rules | `(tactic| walk_at "execs cons") => `(tactic| (k_here; (with_reducible refine gen_tk ?_); intro _; (with_reducible refine wpAny_execs_cons ?_); (try dsimp only)))
local macro_rules | `(tactic| walk_at "my need") => `(tactic| first | with_reducible exact need_nil | with_reducible assumption | ((repeat (with_reducible refine need_cons ?_)); with_reducible assumption))
local macro_rules | `(tactic| walk_at "my N") => `(tactic| first | k_asm | ((rename News _ _ _ _ => nE'); exact fun p hp => nE' p (by (repeat (first | with_reducible exact hp | with_reducible refine List.mem_cons_of_mem _ ?_)))))
local macro_rules | `(tactic| walk_at "my keep") => `(tactic| first | k_asm | exact news_keep (by k_asm) | exact news_keep (news_keep (by k_asm)) | exact news_keep (news_keep (news_keep (by k_asm))) | exact news_keep (news_keep (news_keep (news_keep (by k_asm)))) | exact news_keep (news_keep (news_keep (news_keep (news_keep (by k_asm))))) | exact news_keep (news_keep (news_keep (news_keep (news_keep (news_keep (by k_asm)))))) | exact news_keep (news_keep (news_keep (news_keep (news_keep (news_keep (news_keep (by k_asm))))))) | exact news_keep (news_keep (news_keep (news_keep (news_keep (news_keep (news_keep (news_keep (by k_asm)))))))) | exact news_keep (news_keep (news_keep (news_keep (news_keep (news_keep (news_keep (news_keep (news_keep (by k_asm))))))))) | exact news_keep (news_keep (news_keep (news_keep (news_keep (news_keep (news_keep (news_keep (news_keep (news_keep (by k_asm)))))))))) | exact news_keep (news_keep (news_keep (news_keep (news_keep (news_keep (news_keep (news_keep (news_keep (news_keep (news_keep (by k_asm))))))))))) | exact news_keep (news_keep (news_keep (news_keep (news_keep (news_keep (news_keep (news_keep (news_keep (news_keep (news_keep (news_keep (by k_asm)))))))))))))
local macro_rules | `(tactic| walk_at "my lt") => `(tactic| first | assumption | exact kst_ltOf (by assumption) | exact kst_ltOf (And.right (by assumption)) | exact kst_ltOf (And.right (And.right (by assumption))) | exact kst_ltOf (And.right (And.right (And.right (by assumption)))) | exact kst_ltOf (And.right (And.right (And.right (And.right (by assumption))))) | exact kst_ltOf (And.right (And.right (And.right (And.right (And.right (by assumption)))))) | exact kst_ltOf (And.right (And.right (And.right (And.right (And.right (And.right (by assumption))))))) | exact kst_ltOf (And.right (And.right (And.right (And.right (And.right (And.right (And.right (by assumption)))))))) | exact kst_ltOf (And.right (And.right (And.right (And.right (And.right (And.right (And.right (And.right (by assumption))))))))) | exact kst_ltOf (And.right (And.right (And.right (And.right (And.right (And.right (And.right (And.right (And.right (by assumption)))))))))) | exact kst_ltOf (And.right (And.right (And.right (And.right (And.right (And.right (And.right (And.right (And.right (And.right (by assumption))))))))))) | exact kst_ltOf (And.right (And.right (And.right (And.right (And.right (And.right (And.right (And.right (And.right (And.right (And.right (by assumption)))))))))))) | exact kst_ltOf (And.right (And.right (And.right (And.right (And.right (And.right (And.right (And.right (And.right (And.right (And.right (And.right (by assumption))))))))))))))
local macro_rules | `(tactic| walk_at "my need") => `(tactic| ((with_reducible refine need_one ?_); k_mem))
local macro_rules | `(tactic| walk_at "call ref") => `(tactic| (k_here; k_dflt (refine' Says.use (c_lawyear _ _ _) ?k1 ?k2 ?k3 ?k4 ?k5 ?k6 ?k7 ?k8 ?k9 ?_; (case k1 => k_asm); (case k2 => k_asm); (case k3 => k_asm); (case k4 => k_asm); (case k5 => k_asm); (case k6 => first | exact rfl | assumption); (case k7 => walk_at "my need"); (case k8 => ktr_room); (case k9 => ktr_units); k_whole; (intro t9 h9 tk9 F9 N9); (all_goals (try dsimp only)); (all_goals (try k_fold)))))
local macro_rules | `(tactic| walk_at "exec For Tuple Tuple cons nil") => `(tactic| ((rename Fr _ _ _ _ => F'); (with_reducible apply For_unrF); (case _F => with_unfolding_all exact F'); (case hs => (intro _; with_unfolding_all rfl))))

local macro_rules | `(tactic| walk_at "exec For Name Call cons nil") => `(tactic| (k_here; (rename Fr _ _ _ _ => lF'); (with_unfolding_all refine' For_invVF lF' ?k1 ?k2 ?_; (case k1 => exact rfl); (case k2 => exact rfl); k_whole)))
local macro_rules | `(tactic| walk_at "pyIter ref") => `(tactic| (k_dflt (k_extra "pyIter ref")))
local macro_rules | `(tactic| walk_at "LoopStep3") => `(tactic| (k_dflt (refine' LoopStep3.next (LoopStep2.intro ?F ?N rfl ?_); (case F => k_asm); (case N => exact news_swap (by k_asm)))))
local macro_rules | `(tactic| walk_at "exec While Compare cons nil") => `(tactic| (k_dflt (k_extra "exec While Compare cons nil")))
local macro_rules | `(tactic| walk_at "InvEndN") => `(tactic| (k_dflt kst_close))
local macro_rules | `(tactic| walk_at "KswEnd") => `(tactic| (k_dflt ksw_close))
local macro_rules | `(tactic| walk_at "my need") => `(tactic| exact need_one (by k_mem))
local macro_rules | `(tactic| walk_at "my side") => `(tactic| first | exact twelve_roman' | exact roman_top (by omega))
local macro_rules | `(tactic| walk_at "call ref") => `(tactic| (k_here; k_dflt (refine' Says.use (c_lawoff _ [(_, listObj _ _)] _ _ _ _ _ _ _ (List.mem_singleton.mpr rfl) ?x1 (sums_roman _) ?s2 ?x3) ?k1 ?k2 ?k3 ?k4 ?k5 ?k6 ?k7 ?k8 ?k9 ?_; (case k1 => k_asm); (case k2 => k_asm); (case k3 => k_asm); (case k4 => k_asm); (case k5 => k_asm); (case k6 => first | exact rfl | assumption); (case k7 => walk_at "my need"); (case s2 => first | assumption | omega | decide | exact one_le_ml _ _ | ((try dsimp only); omega)); (case x1 => walk_at "my side"); (case x3 => walk_at "my side"); (case k8 => ktr_room); (case k9 => ktr_units); k_whole; (intro x9 y9 mo9 t91 t92 h9 tk9 P9 F9 N9 l9; (try k_lt l9)); (all_goals (try dsimp only)); (all_goals (try k_fold)))))

set_option maxHeartbeats 4000000 in
theorem c_lawroman (w : World) (D : Int) (t : Tok) (h1 : -20000000 < D) (h2 : D < 20000000) : Says w [] 163 [.int D t] 6 64 (RetT3 (IsDate D)) := by
  unfold Says
  k_fill
  intro pg loose mean mg mb news dp un gd cn cs a ccd cl outer A₀ base h₀ L mm s Q E B F X N T hk hn9 hd9 hu9 hret
  have hR0 : 0 ≤ (D - 1721426).fmod 146097 := by rw [Int.fmod_eq_emod_of_nonneg _ (by decide)]; exact Int.emod_nonneg _ (by decide)
  have hR1 : (D - 1721426).fmod 146097 < 146097 := by rw [Int.fmod_eq_emod_of_nonneg _ (by decide)]; exact Int.emod_lt_of_pos _ (by decide)
  k_with "measure" => exact roman_less (by assumption)
  k_with "state" => first | exact roman_end (by assumption) | exact roman_step ⟨by assumption, by assumption⟩ (by assumption) | exact roman1_0 hR0 | exact roman2_0 (by assumption) hR1 | ((simp only [List.length_append, List.length_cons, List.length_nil]); first | exact roman1_no (by assumption) (by omega) | exact roman1_yes (by assumption) (by omega) | exact roman2_no (by assumption) (by omega) | exact roman2_yes (by assumption) (by omega)) | omega
  k_with "pyIter ref" => k_state_short (fun pre r y => Roman2 ((D - 1721426).fmod 146097) (400 * (D - 1721426).fdiv 146097 + 1) pre.length r y) "rest" "year"
  k_with "pyIter ref" => k_state_short (fun pre r y => Roman1 ((D - 1721426).fmod 146097) (400 * (D - 1721426).fdiv 146097 + 1) pre.length r y) "rest" "year"
  k_with "exec While Compare cons nil" => k_while (fun _ r y => 0 ≤ r ∧ yo y + r = D) (fun _ r _ => r.toNat) "rest" "year"
  refine wpAny_call ?_
  k_dflt (refine' code_def (binds := [(Str.ofString "day", .int D t)]) ?k1 ?k2 ?k3 ?k4 ?k5 ?kA ?kF ?kK ?k6 ?k7 ?k8 ?k9 ?kB ?_ ?c2 ?c3 ?c4 ?c5; (case kA => exact rfl); (case kF => exact rfl); (case kK => assumption); (case k1 => k_asm); (case k2 => k_asm); (case k3 => k_asm); (case k4 => k_asm); (case k5 => k_asm); (case k6 => k_is); (case k7 => k_is); (case k8 => ktr_room); (case k9 => exact BindsTo.of_eq rfl); (case c5 => decide); (case kB => exact locs rfl); (case c2 => exact rfl); (case c3 => exact rfl); (case c4 => exact rfl); k_whole; intro g' L' h' FG' F' N' B' X' T'; (try dsimp only [List.reverse_cons, List.reverse_nil, List.nil_append, List.cons_append, List.append_nil]); (try k_lift B'); (try k_fold))
  k_steps
  all_goals (first | exact endT3 hret (by k_asm) (by walk_at "my keep") (by walk_at "my lt") (roman_date ⟨by assumption, by assumption⟩ (by assumption)) | (refine endT3 hret (by k_asm) ?_ ?_ ?_))
end Mine

end

section
open PySem PySem.W PyProof.Rows PySem.Spec PySem.Calls
set_option Elab.async false
set_option maxRecDepth 100000
namespace Mine
local macro_rules | `(tactic| walk_at "eval Constant float") => `(tactic| (k_dflt (refine Flo.k_const Flo.half_lit ?_)))
local macro_rules | `(tactic| walk_at "binaryOp Sub float float") => `(tactic| (k_dflt ((fail_if_success (with_reducible show wpAny _ _ (binaryOp _ _ (Value.float (Flo.hf _) _)) _ _ _)); (fail_if_success (with_reducible show wpAny _ _ (binaryOp _ _ (Value.float Flo.TROP _)) _ _ _)); refine Flo.k_subL Flo.epg_lit ?_)))
local macro_rules | `(tactic| walk_at "binaryOp Sub float float") => `(tactic| (k_dflt ((fail_if_success (with_reducible show wpAny _ _ (binaryOp _ _ (Value.float (Flo.hf _) _)) _ _ _)); (fail_if_success (with_reducible show wpAny _ _ (binaryOp _ _ (Value.float Flo.TROP _)) _ _ _)); refine Flo.k_subL Flo.epp_lit ?_)))
local macro_rules | `(tactic| walk_at "binaryOp Sub int float") => `(tactic| (k_dflt ((fail_if_success (with_reducible show wpAny _ _ (binaryOp _ _ (Value.float (Flo.hf _) _)) _ _ _)); (fail_if_success (with_reducible show wpAny _ _ (binaryOp _ _ (Value.float Flo.TROP _)) _ _ _)); refine Flo.k_subL Flo.epp_lit ?_)))
local macro_rules | `(tactic| walk_at "binaryOp Sub float int") => `(tactic| (k_dflt ((fail_if_success (with_reducible show wpAny _ _ (binaryOp _ (Value.float (Flo.hf _) _) _) _ _ _)); (fail_if_success (with_reducible show wpAny _ _ (binaryOp _ (Value.float Flo.TROP _) _) _ _ _)); refine Flo.k_Lsub Flo.epg_lit ?_)))
local macro_rules | `(tactic| walk_at "binaryOp Sub float int") => `(tactic| (k_dflt ((fail_if_success (with_reducible show wpAny _ _ (binaryOp _ (Value.float (Flo.hf _) _) _) _ _ _)); (fail_if_success (with_reducible show wpAny _ _ (binaryOp _ (Value.float Flo.TROP _) _) _ _ _)); refine Flo.k_Lsub Flo.epp_lit ?_)))
local macro_rules | `(tactic| walk_at "binaryOp Mult float int") => `(tactic| (k_dflt ((fail_if_success (with_reducible show wpAny _ _ (binaryOp _ (Value.float (Flo.hf _) _) _) _ _ _)); (fail_if_success (with_reducible show wpAny _ _ (binaryOp _ (Value.float Flo.TROP _) _) _ _ _)); refine Flo.k_Lmul Flo.trop_lit ?_)))
local macro_rules | `(tactic| walk_at "binaryOp Div float float") => `(tactic| (k_dflt ((fail_if_success (with_reducible show wpAny _ _ (binaryOp _ _ (Value.float (Flo.hf _) _)) _ _ _)); (fail_if_success (with_reducible show wpAny _ _ (binaryOp _ _ (Value.float Flo.TROP _)) _ _ _)); refine Flo.k_divL Flo.trop_lit ?_)))
local macro_rules | `(tactic| walk_at "binaryOp Add int float") => `(tactic| (k_dflt ((fail_if_success (with_reducible show wpAny _ _ (binaryOp _ _ (Value.float (Flo.hf _) _)) _ _ _)); (fail_if_success (with_reducible show wpAny _ _ (binaryOp _ _ (Value.float Flo.TROP _)) _ _ _)); refine Flo.k_addL Flo.trop_lit ?_)))
local macro_rules | `(tactic| walk_at "binaryOp Add int bool") => `(tactic| (first | refine' Flo.k_addit ?_ | refine' Flo.k_addif0 ?_))
local macro_rules | `(tactic| walk_at "binaryOp Add float float") => `(tactic| ((with_reducible show wpAny _ _ (binaryOp _ (Value.float (Flo.hf _) _) (Value.float (Flo.hf _) _)) _ _ _); refine' Flo.k_addff ?_ ?a0 ?a1; (case a0 => k_dflt omega); (case a1 => k_dflt omega)))
local macro_rules | `(tactic| walk_at "binaryOp Sub float float") => `(tactic| ((with_reducible show wpAny _ _ (binaryOp _ (Value.float (Flo.hf _) _) (Value.float (Flo.hf _) _)) _ _ _); refine' Flo.k_subff ?_ ?a0 ?a1; (case a0 => k_dflt omega); (case a1 => k_dflt omega)))
local macro_rules | `(tactic| walk_at "binaryOp Add float int") => `(tactic| ((fail_if_success (with_reducible show wpAny _ _ (binaryOp _ (Value.float (Flo.hf _) _) _) _ _ _)); refine' Flo.k_addQi ?_ ?hq ?h1 ?h2 ?h3 ?h4; (case hq => with_reducible assumption); (case h1 => k_dflt decide); (case h2 => k_dflt decide); (case h3 => k_dflt omega); (case h4 => k_dflt omega); intro _ _))
local macro_rules | `(tactic| walk_at "binaryOp Add float int") => `(tactic| ((with_reducible show wpAny _ _ (binaryOp _ (Value.float (Flo.hf _) _) (Value.int _ _)) _ _ _); refine' Flo.k_addfi ?_ ?a ?b; (case a => k_dflt omega); (case b => k_dflt omega)))
local macro_rules | `(tactic| walk_at "binaryOp Add int float") => `(tactic| ((with_reducible show wpAny _ _ (binaryOp _ (Value.int _ _) (Value.float Flo.TROP _)) _ _ _); refine' Flo.k_addiX ?_ ?a0; (case a0 => k_dflt omega)))
local macro_rules | `(tactic| walk_at "binaryOp Add float int") => `(tactic| ((with_reducible show wpAny _ _ (binaryOp _ (Value.float (Float64.add _ _) _) (Value.int _ _)) _ _ _); refine' Flo.k_addXi ?_ ?a0; (case a0 => k_dflt omega)))
local macro_rules | `(tactic| walk_at "binaryOp Add int float") => `(tactic| ((with_reducible show wpAny _ _ (binaryOp _ (Value.int _ _) (Value.float (Flo.hf _) _)) _ _ _); refine' Flo.k_addif ?_ ?a0 ?a1; (case a0 => k_dflt omega); (case a1 => k_dflt omega)))
local macro_rules | `(tactic| walk_at "binaryOp Sub float int") => `(tactic| ((with_reducible show wpAny _ _ (binaryOp _ (Value.float (Flo.hf _) _) (Value.int _ _)) _ _ _); refine' Flo.k_subfi ?_ ?a0 ?a1; (case a0 => k_dflt omega); (case a1 => k_dflt omega)))
local macro_rules | `(tactic| walk_at "binaryOp Sub int float") => `(tactic| ((with_reducible show wpAny _ _ (binaryOp _ (Value.int _ _) (Value.float (Flo.hf _) _)) _ _ _); refine' Flo.k_subif ?_ ?a0 ?a1; (case a0 => k_dflt omega); (case a1 => k_dflt omega)))
local macro_rules | `(tactic| walk_at "binaryOp Mult float int") => `(tactic| ((with_reducible show wpAny _ _ (binaryOp _ (Value.float (Flo.hf _) _) (Value.int _ _)) _ _ _); refine' Flo.k_mulfi ?_ ?a0 ?a1 ?a2 ?a3; (case a0 => k_dflt omega); (case a1 => k_dflt omega); (case a2 => k_dflt decide); (case a3 => k_dflt decide)))
local macro_rules | `(tactic| walk_at "binaryOp Mult float int") => `(tactic| ((with_reducible show wpAny _ _ (binaryOp _ (Value.float Flo.TROP _) (Value.int _ _)) _ _ _); refine' Flo.k_mulT ?_ ?a0; (case a0 => k_dflt omega)))
local macro_rules | `(tactic| walk_at "binaryOp Mod float int") => `(tactic| ((with_reducible show wpAny _ _ (binaryOp _ (Value.float (Flo.hf _) _) (Value.int _ _)) _ _ _); refine' Flo.k_modfi ?_ ?a0 ?a1 ?a2 ?a3; (case a0 => k_dflt omega); (case a1 => k_dflt omega); (case a2 => k_dflt decide); (case a3 => k_dflt decide); intro _ _ _ _ _))
local macro_rules | `(tactic| walk_at "binaryOp Mod float int") => `(tactic| ((with_reducible show wpAny _ _ (binaryOp _ (Value.float (Flo.hf (2 * _)) _) (Value.int _ _)) _ _ _); refine' Flo.k_modfi2 ?_ ?a0 ?a1 ?a2; (case a0 => k_dflt omega); (case a1 => k_dflt decide); (case a2 => k_dflt decide)))
local macro_rules | `(tactic| walk_at "binaryOp Div float int") => `(tactic| ((with_reducible show wpAny _ _ (binaryOp _ (Value.float (Flo.hf _) _) (Value.int _ _)) _ _ _); refine' Flo.k_divfi ?_ ?a0 ?a1 ?a2 ?a3; (case a0 => k_dflt omega); (case a1 => k_dflt omega); (case a2 => k_dflt decide); (case a3 => k_dflt decide); intro _ _ _ _))
local macro_rules | `(tactic| walk_at "binaryOp Div float int") => `(tactic| ((with_reducible show wpAny _ _ (binaryOp _ (Value.float (Flo.hf (2 * _)) _) (Value.int _ _)) _ _ _); refine' Flo.k_divfi2 ?_ ?a0 ?a1 ?a2; (case a0 => k_dflt omega); (case a1 => k_dflt decide); (case a2 => k_dflt decide); intro _ _))
local macro_rules | `(tactic| walk_at "binaryOp Div float float") => `(tactic| ((with_reducible show wpAny _ _ (binaryOp _ (Value.float (Flo.hf _) _) (Value.float Flo.TROP _)) _ _ _); refine Flo.k_divT ?_))
local macro_rules | `(tactic| walk_at "binaryOp Div int int") => `(tactic| (refine' Flo.k_divii ?_ ?a0 ?a1 ?a2; (case a0 => k_dflt omega); (case a1 => k_dflt decide); (case a2 => k_dflt decide); intro _ _))
local macro_rules | `(tactic| walk_at "call builtin:math.floor") => `(tactic| ((with_reducible show wpAny _ _ (call _ [(Value.float (Flo.hf _) _)]) _ _ _); refine' Flo.k_floorH ?_ ?h1 ?h2; (case h1 => k_dflt omega); (case h2 => k_dflt exact rfl); intro _ _ _))
local macro_rules | `(tactic| walk_at "call builtin:math.floor") => `(tactic| ((fail_if_success (with_reducible show wpAny _ _ (call _ [(Value.float (Flo.hf _) _)]) _ _ _)); refine' Flo.k_floorQ ?hq ?_ ?h1 ?h2 ?h3; (case hq => with_reducible assumption); (case h1 => k_dflt decide); (case h2 => k_dflt decide); (case h3 => k_dflt exact rfl); intro _ _ _))
local macro_rules | `(tactic| walk_at "call builtin:math.floor") => `(tactic| ((fail_if_success (with_reducible show wpAny _ _ (call _ [(Value.float (Flo.hf _) _)]) _ _ _)); refine' Flo.k_floorFl ?hq ?_ ?h3; (case hq => with_reducible assumption); (case h3 => k_dflt exact rfl)))
local macro_rules | `(tactic| walk_at "call builtin:math.ceil") => `(tactic| ((fail_if_success (with_reducible show wpAny _ _ (call _ [(Value.float (Flo.hf _) _)]) _ _ _)); refine' Flo.k_ceilQ ?hq ?_ ?h1 ?h2 ?h3; (case hq => with_reducible assumption); (case h1 => k_dflt decide); (case h2 => k_dflt decide); (case h3 => k_dflt exact rfl); intro _ _ _))
local macro_rules | `(tactic| walk_at "call builtin:round") => `(tactic| ((fail_if_success (with_reducible show wpAny _ _ (call _ [(Value.float (Flo.hf _) _)]) _ _ _)); refine' Flo.k_round ?hq ?_ ?h3; (case hq => with_reducible assumption); (case h3 => k_dflt exact rfl)))
local macro_rules | `(tactic| walk_at "call type:int") => `(tactic| ((with_reducible show wpAny _ _ (call _ [(Value.float (Flo.hf _) _)]) _ _ _); refine' Flo.k_intH ?_ ?h1 ?h2; (case h1 => k_dflt omega); (case h2 => k_dflt omega); intro _ _))
local macro_rules | `(tactic| walk_at "compareOp Lt float int") => `(tactic| ((with_reducible show wpAny _ _ (compareOp _ (Value.float (Flo.hf _) _) (Value.int _ _)) _ _ _); refine' Flo.k_ltfi ?_ ?h1; (case h1 => k_dflt omega)))
local macro_rules | `(tactic| walk_at "compareOp LtE float int") => `(tactic| ((with_reducible show wpAny _ _ (compareOp _ (Value.float (Flo.hf _) _) (Value.int _ _)) _ _ _); refine' Flo.k_lefi ?_ ?h1; (case h1 => k_dflt omega)))
local macro_rules | `(tactic| walk_at "compareOp Gt float int") => `(tactic| ((with_reducible show wpAny _ _ (compareOp _ (Value.float (Flo.hf _) _) (Value.int _ _)) _ _ _); refine' Flo.k_gtfi ?_ ?h1; (case h1 => k_dflt omega)))
local macro_rules | `(tactic| walk_at "compareOp NotEq float float") => `(tactic| ((with_reducible show wpAny _ _ (compareOp _ (Value.float (Flo.hf _) _) (Value.float (Flo.hf _) _)) _ _ _); refine' Flo.k_neff ?_ ?h1 ?h2; (case h1 => k_dflt omega); (case h2 => k_dflt omega)))
local macro_rules | `(tactic| walk_at "compareOp Gt int float") => `(tactic| (refine' Flo.k_gtiF ?hq ?_; (case hq => with_reducible assumption)))
local macro_rules | `(tactic| walk_at "compareOp LtE int float") => `(tactic| (refine' Flo.k_leiF ?hq ?_; (case hq => with_reducible assumption)))
local macro_rules | `(tactic| walk_at "compareOp Lt float int") => `(tactic| ((fail_if_success (with_reducible show wpAny _ _ (compareOp _ (Value.float (Flo.hf _) _) _) _ _ _)); refine' Flo.k_ltFi ?hq ?_; (case hq => with_reducible assumption)))
local macro_rules | `(tactic| walk_at "eval Call") => `(tactic| (k_dflt (refine Call_ ?_)))
local macro_rules | `(tactic| walk_at "execs cons") => `(tactic| (k_here; (with_reducible refine gen_tk ?_); intro _; (with_reducible refine wpAny_execs_cons ?_); (try dsimp only)))
local macro_rules | `(tactic| walk_at "my need") => `(tactic| first | with_reducible exact need_nil | with_reducible assumption | ((repeat (with_reducible refine need_cons ?_)); with_reducible assumption))
local macro_rules | `(tactic| walk_at "my N") => `(tactic| first | k_asm | ((rename News _ _ _ _ => nE'); exact fun p hp => nE' p (by (repeat (first | with_reducible exact hp | with_reducible refine List.mem_cons_of_mem _ ?_)))))
local macro_rules | `(tactic| walk_at "my keep") => `(tactic| first | k_asm | exact news_keep (by k_asm) | exact news_keep (news_keep (by k_asm)) | exact news_keep (news_keep (news_keep (by k_asm))) | exact news_keep (news_keep (news_keep (news_keep (by k_asm)))) | exact news_keep (news_keep (news_keep (news_keep (news_keep (by k_asm))))) | exact news_keep (news_keep (news_keep (news_keep (news_keep (news_keep (by k_asm)))))) | exact news_keep (news_keep (news_keep (news_keep (news_keep (news_keep (news_keep (by k_asm))))))) | exact news_keep (news_keep (news_keep (news_keep (news_keep (news_keep (news_keep (news_keep (by k_asm)))))))) | exact news_keep (news_keep (news_keep (news_keep (news_keep (news_keep (news_keep (news_keep (news_keep (by k_asm))))))))) | exact news_keep (news_keep (news_keep (news_keep (news_keep (news_keep (news_keep (news_keep (news_keep (news_keep (by k_asm)))))))))) | exact news_keep (news_keep (news_keep (news_keep (news_keep (news_keep (news_keep (news_keep (news_keep (news_keep (news_keep (by k_asm))))))))))) | exact news_keep (news_keep (news_keep (news_keep (news_keep (news_keep (news_keep (news_keep (news_keep (news_keep (news_keep (news_keep (by k_asm)))))))))))))
local macro_rules | `(tactic| walk_at "my lt") => `(tactic| first | assumption | exact kst_ltOf (by assumption) | exact kst_ltOf (And.right (by assumption)) | exact kst_ltOf (And.right (And.right (by assumption))) | exact kst_ltOf (And.right (And.right (And.right (by assumption)))) | exact kst_ltOf (And.right (And.right (And.right (And.right (by assumption))))) | exact kst_ltOf (And.right (And.right (And.right (And.right (And.right (by assumption)))))) | exact kst_ltOf (And.right (And.right (And.right (And.right (And.right (And.right (by assumption))))))) | exact kst_ltOf (And.right (And.right (And.right (And.right (And.right (And.right (And.right (by assumption)))))))) | exact kst_ltOf (And.right (And.right (And.right (And.right (And.right (And.right (And.right (And.right (by assumption))))))))) | exact kst_ltOf (And.right (And.right (And.right (And.right (And.right (And.right (And.right (And.right (And.right (by assumption)))))))))) | exact kst_ltOf (And.right (And.right (And.right (And.right (And.right (And.right (And.right (And.right (And.right (And.right (by assumption))))))))))) | exact kst_ltOf (And.right (And.right (And.right (And.right (And.right (And.right (And.right (And.right (And.right (And.right (And.right (by assumption)))))))))))) | exact kst_ltOf (And.right (And.right (And.right (And.right (And.right (And.right (And.right (And.right (And.right (And.right (And.right (And.right (by assumption))))))))))))))
local macro_rules | `(tactic| walk_at "my need") => `(tactic| ((with_reducible refine need_one ?_); k_mem))
/-- a list of n + 1 ints, told by ss -/
def Stair (vs : List Value) (ss : Int → Int) (n : Int) : Prop := (vs.length : Int) = n + 1 ∧ 0 ≤ n ∧ n ≤ 12 ∧ ∀ p : Int, 0 ≤ p → p ≤ n → ∃ tk, vs[p.toNat]? = some (.int (ss p) tk)
/-- the day on which a year opens -/
def Op (f st : Int) (ss : Int → Int) (n c : Int) : Int :=
  if c - f < 0 then st + 365 * (c - f) + (8 * (c - f)).fdiv 33
  else if n < c - f then st + 365 * (c - f) + ss n + (8 * (c - f - n)).fdiv 33
  else st + 365 * (c - f) + ss (c - f)
theorem op1 {f st n c : Int} {ss : Int → Int} (h : c - f < 0) : st + 365 * (c - f) + (8 * (c - f)).fdiv 33 = Op f st ss n c := by unfold Op; rw [if_pos h]
theorem op2 {f st n c : Int} {ss : Int → Int} (h : ¬ c - f < 0) (h' : n < c - f) : st + 365 * (c - f) + ss n + (8 * (c - f - n)).fdiv 33 = Op f st ss n c := by unfold Op; rw [if_neg h, if_pos h']
theorem op3 {f st n c : Int} {ss : Int → Int} (h : ¬ c - f < 0) (h' : ¬ n < c - f) : st + 365 * (c - f) + ss (c - f) = Op f st ss n c := by unfold Op; rw [if_neg h, if_neg h']
section
variable {prog : Program} {w : World} {A : Around} {E : Value → Shared → Prop} {s : Shared} {t u : Tok} {Q : Value → Shared → Prop} {n k : Int} {h₀ : Heap} {L : Addr} {news : Led} {sl : Addr} {vs : List Value} {ss : Int → Int} {nn : Nat}
theorem k_sitem {value slice : Expr} (N : News h₀ L s.heap news) (hm : (sl, listObj vs nn) ∈ news) (hv : Stair vs ss n) (h0 : 0 ≤ k) (h1 : k ≤ n) (h : ∀ tk, Q (.int (ss k) tk) s)
    (hs : subscripted slice false (.ref sl) (.int k u) = operate [.ref sl, .int k u] (getItem (.ref sl) (.int k u)) := by with_unfolding_all rfl) :
    wpAny (model prog w) A (subscriptTail value slice (.ref sl) (.int k u)) Q E s := by
  obtain ⟨tk, ht⟩ := hv.2.2.2 k h0 h1
  have hl : s.heap.IsList sl vs.toArray := News.isList N hm
  have hn := hv.2.2.1
  exact tail_any hl.typeIs slot_list_getitem.lookup (wpAny_getItem_list hl h0 (by omega) (by simpa using ht) (h tk)) hs
theorem k_slen (N : News h₀ L s.heap news) (hm : (sl, listObj vs nn) ∈ news) (hv : Stair vs ss n) (h : Q (.int (n + 1) (s.toks + 1)) { s with toks := s.toks + 1 + 1 }) : wpAny (model prog w) A (call (.builtin "len") [.ref sl]) Q E s := by
  have hl : s.heap.IsList sl vs.toArray := News.isList N hm
  have e : ((vs.toArray.size : Nat) : Int) = n + 1 := by rw [List.size_toArray, hv.1]
  have hn := hv.2.2.1
  exact len_list hl (by rw [List.size_toArray]; have := hv.1; omega) (by rw [e]; exact h)
end
local macro_rules | `(tactic| walk_at "call builtin:len") => `(tactic| (k_here; (with_reducible show wpAny _ _ (call (Value.builtin "len") [Value.ref _]) _ _ _); k_dflt (refine' k_slen ?N ?m ?v ?_; (case N => k_asm); (case m => k_mem); (case v => assumption); k_whole)))
local macro_rules | `(tactic| walk_at "subscriptTail") => `(tactic| (k_here; (with_reducible show wpAny _ _ (subscriptTail _ _ (Value.ref _) (Value.int _ _)) _ _ _); k_dflt (refine' k_sitem ?N ?m ?v ?a ?b ?_; (case N => k_asm); (case m => k_mem); (case v => assumption); (case a => omega); (case b => omega); k_whole; intro _)))

set_option maxHeartbeats 4000000 in
theorem c_lawopening (w : World) (need : Led) (sl : Addr) (c f st n : Int) (t1 t2 t3 : Tok) (vs : List Value) (nn : Nat) (ss : Int → Int) (hsl : (sl, listObj vs nn) ∈ need) (hv : Stair vs ss n) :
    Says w need 137 [.int c t1, .int f t2, .int st t3, .ref sl] 1 16 (RetI (Op f st ss n c)) := by
  unfold Says
  k_fill
  intro pg loose mean mg mb news dp un gd cn cs a ccd cl outer A₀ base h₀ L mm s Q E B F X N T hk hn9 hd9 hu9 hret
  have hsl' := hn9 _ hsl
  have hn0 := hv.2.1
  refine wpAny_call ?_
  k_dflt (refine' code_def (binds := [(Str.ofString "civil", .int c t1), (Str.ofString "first", .int f t2), (Str.ofString "start", .int st t3), (Str.ofString "sums", .ref sl)]) ?k1 ?k2 ?k3 ?k4 ?k5 ?kA ?kF ?kK ?k6 ?k7 ?k8 ?k9 ?kB ?_ ?c2 ?c3 ?c4 ?c5; (case kA => exact rfl); (case kF => exact rfl); (case kK => assumption); (case k1 => k_asm); (case k2 => k_asm); (case k3 => k_asm); (case k4 => k_asm); (case k5 => k_asm); (case k6 => k_is); (case k7 => k_is); (case k8 => ktr_room); (case k9 => exact BindsTo.of_eq rfl); (case c5 => decide); (case kB => exact locs rfl); (case c2 => exact rfl); (case c3 => exact rfl); (case c4 => exact rfl); k_whole; intro g' L' h' FG' F' N' B' X' T'; (try dsimp only [List.reverse_cons, List.reverse_nil, List.nil_append, List.cons_append, List.append_nil]); (try k_lift B'); (try k_fold))
  k_steps
  all_goals (refine endI hret (by k_asm) (by walk_at "my N") ?_)
  all_goals (first | exact op1 (by omega) | (rw [show n + 1 - 1 = n by omega]; first | exact op2 (by omega) (by omega) | exact op3 (by omega) (by omega)) | exact op3 (by omega) (by omega))
end Mine

end

section
open PySem PySem.W PyProof.Rows PySem.Spec PySem.Calls
set_option maxRecDepth 100000
namespace Mine
/-- the stairs: nought at nought, each step 0 or 1 -/
def Steps (ss : Int → Int) (n : Int) : Prop := ss 0 = 0 ∧ ∀ p, 0 ≤ p → p < n → ss (p + 1) = ss p ∨ ss (p + 1) = ss p + 1
theorem steps_le {ss : Int → Int} {n : Int} (h : Steps ss n) : ∀ k : Nat, (k : Int) ≤ n → 0 ≤ ss k ∧ ss k ≤ k
  | 0, _ => by have := h.1; simp only [Int.ofNat_zero] at *; omega
  | k + 1, hk => by
    have a := steps_le h k (by omega)
    have b := h.2 k (by omega) (by omega)
    rw [show ((k + 1 : Nat) : Int) = (k : Int) + 1 by omega]
    omega
theorem steps_at {ss : Int → Int} {n p : Int} (h : Steps ss n) (h0 : 0 ≤ p) (h1 : p ≤ n) : 0 ≤ ss p ∧ ss p ≤ p := by
  have := steps_le h p.toNat (by omega)
  rw [show ((p.toNat : Nat) : Int) = p by omega] at this
  exact this
theorem fdiv33 (x : Int) : 33 * (x.fdiv 33) ≤ x ∧ x < 33 * (x.fdiv 33) + 33 := by
  rw [Int.fdiv_eq_ediv_of_nonneg _ (by decide : (0 : Int) ≤ 33)]
  omega
theorem op_succ {f st n c : Int} {ss : Int → Int} (hn : 0 ≤ n) (h : Steps ss n) : Op f st ss n c + 365 ≤ Op f st ss n (c + 1) ∧ Op f st ss n (c + 1) ≤ Op f st ss n c + 366 := by
  have e : c + 1 - f = c - f + 1 := by omega
  unfold Op
  rw [e]
  generalize c - f = p
  have h0 := h.1
  rcases Int.lt_or_le p (-1) with h1 | h1
  · rw [if_pos (by omega), if_pos (by omega)]
    have := fdiv33 (8 * p)
    have := fdiv33 (8 * (p + 1))
    omega
  rcases Int.lt_or_le p 0 with h2 | h2
  · have : p = -1 := by omega
    subst this
    rw [if_pos (by omega), if_neg (by omega), if_neg (by omega), show (-1 : Int) + 1 = 0 from rfl, h0, show (8 * -1 : Int).fdiv 33 = -1 from rfl]
    omega
  rcases Int.lt_or_le p n with h3 | h3
  · rw [if_neg (by omega), if_neg (by omega), if_neg (by omega), if_neg (by omega)]
    have := h.2 p h2 h3
    omega
  rcases Int.lt_or_le n p with h4 | h4
  · rw [if_neg (by omega), if_pos (by omega), if_neg (by omega), if_pos (by omega)]
    have := fdiv33 (8 * (p - n))
    have := fdiv33 (8 * (p + 1 - n))
    omega
  · have : p = n := by omega
    subst this
    rw [if_neg (by omega), if_neg (by omega), if_neg (by omega), if_pos (by omega)]
    have : (8 * (p + 1 - p)).fdiv 33 = 0 := by rw [show p + 1 - p = 1 by omega]; rfl
    rw [this]
    omega
theorem op_near {f st n c far moved : Int} {ss : Int → Int} (hn : 0 ≤ n) (hn' : n ≤ 12) (h : Steps ss n) (hf : f = 622 + far) (hm1 : -10 ≤ moved) (hm2 : moved ≤ 10) (hst : st = 1948321 + 365 * far + (8 * far).fdiv 33 + moved) :
    -759 ≤ 33 * (Op f st ss n c - 1 - 1948320 - 365 * (c - 622)) - 8 * (c - 622) ∧ 33 * (Op f st ss n c - 1 - 1948320 - 365 * (c - 622)) - 8 * (c - 622) ≤ 759 := by
  subst hf hst
  have h8 := fdiv33 (8 * far)
  unfold Op
  have e : c - (622 + far) = c - 622 - far := by omega
  rw [e]
  generalize c - 622 = q
  rcases Int.lt_or_le (q - far) 0 with h1 | h1
  · rw [if_pos h1]
    have := fdiv33 (8 * (q - far))
    omega
  rcases Int.lt_or_le n (q - far) with h2 | h2
  · rw [if_neg (by omega), if_pos h2]
    have := fdiv33 (8 * (q - far - n))
    have := steps_at h hn (Int.le_refl n)
    omega
  · rw [if_neg (by omega), if_neg (by omega)]
    have := steps_at h h1 h2
    generalize ss (q - far) = z at *
    omega
theorem op_opens {f st n far moved : Int} {ss : Int → Int} (hn : 0 ≤ n) (hn' : n ≤ 12) (h : Steps ss n) (hf : f = 622 + far) (hm1 : -10 ≤ moved) (hm2 : moved ≤ 10) (hst : st = 1948321 + 365 * far + (8 * far).fdiv 33 + moved) :
    Opens (fun c => Op f st ss n c - 1) where
  lo c := by have := (op_succ (f := f) (st := st) (c := c) hn h).1; show _ - 1 + 365 ≤ _ - 1; omega
  hi c := by have := (op_succ (f := f) (st := st) (c := c) hn h).2; show _ - 1 ≤ _ - 1 + 366; omega
  near1 c := by have := (op_near (c := c) hn hn' h hf hm1 hm2 hst).1; exact this
  near2 c := by have := (op_near (c := c) hn hn' h hf hm1 hm2 hst).2; exact this
theorem Opens.mono {E : Int → Int} (H : Opens E) {a : Int} : ∀ k : Nat, E a ≤ E (a + k)
  | 0 => by rw [show a + ((0 : Nat) : Int) = a by omega]; exact Int.le_refl _
  | k + 1 => by
    have h1 := Opens.mono H (a := a) k
    have h2 := H.lo (a + k)
    rw [show a + ((k + 1 : Nat) : Int) = a + (k : Int) + 1 by omega]
    omega
theorem Opens.lt {E : Int → Int} (H : Opens E) {a b : Int} (h : E a < E b) : a < b := by
  rcases Int.lt_or_le a b with h1 | h1
  · exact h1
  · have := H.mono (a := b) (a - b).toNat
    rw [show b + (((a - b).toNat : Nat) : Int) = a by omega] at this
    omega
theorem holds_step {E : Int → Int} {f D c : Int} (H : Opens E) (hD : D ≤ E (f + 16)) (h : f - 3 ≤ c ∧ c ≤ f + 15 ∧ E c < D) (h' : E (c + 1) < D) : f - 3 ≤ c + 1 ∧ c + 1 ≤ f + 15 ∧ E (c + 1) < D := by
  have := H.lt (a := c + 1) (b := f + 16) (by omega)
  omega
/-- the months of a year of z days -/
def szOf (z : Int) : Int → Int := fun p => if p < 6 then 31 else if p < 11 then 30 else z - 336
def smOf (z : Int) : Int → Int := fun p => if p ≤ 6 then 31 * p else if p ≤ 11 then 30 * p + 6 else z
theorem sums_persian (z : Int) : SumsOf (smOf z) (szOf z) := by
  refine ⟨rfl, fun p h0 h1 => ?_⟩
  unfold smOf szOf
  have : p = 0 ∨ p = 1 ∨ p = 2 ∨ p = 3 ∨ p = 4 ∨ p = 5 ∨ p = 6 ∨ p = 7 ∨ p = 8 ∨ p = 9 ∨ p = 10 ∨ p = 11 := by omega
  rcases this with h | h | h | h | h | h | h | h | h | h | h | h <;> subst h <;> simp <;> omega
/-- the day at the place p, r in the year that opens behind the day b -/
structure At (Ec : Int → Int) (D c p r : Int) : Prop where
  y1 : -40700 < c
  y2 : c < 41600
  e1 : Ec c < D
  e2 : D ≤ Ec (c + 1)
  p0 : 0 ≤ p
  p1 : p < 12
  r0 : 0 ≤ r
  r1 : r < szOf (Ec (c + 1) - Ec c) p
  s : smOf (Ec (c + 1) - Ec c) p + r = D - Ec c - 1
theorem month_day {Ec : Int → Int} {D c p r m d : Int} (H : Opens Ec) (a : At Ec D c p r) (h : MonthDay (D - Ec c) m d) : m = p + 1 ∧ d = r + 1 := by
  have b1 := a.p0; have b2 := a.p1; have b3 := a.r0; have b4 := a.r1; have b5 := a.s
  have h1 := H.lo c
  have h2 := H.hi c
  unfold MonthDay at h
  generalize hx : Ec (c + 1) - Ec c = x at *
  generalize D - Ec c = g at *
  unfold szOf at b4
  unfold smOf at b5
  have : p = 0 ∨ p = 1 ∨ p = 2 ∨ p = 3 ∨ p = 4 ∨ p = 5 ∨ p = 6 ∨ p = 7 ∨ p = 8 ∨ p = 9 ∨ p = 10 ∨ p = 11 := by omega
  rcases this with h | h | h | h | h | h | h | h | h | h | h | h <;> subst h <;> simp at b4 b5 <;> omega
theorem month_one {m d : Int} (h : MonthDay 1 m d) : m = 1 ∧ d = 1 := by
  unfold MonthDay at h
  omega
/-- the day behind it -/
def NextOf (z c p r y m d : Int) : Prop := (r + 1 < szOf z p ∧ y = c - 621 ∧ m = p + 1 ∧ d = r + 1 + 1) ∨ (szOf z p ≤ r + 1 ∧ p + 1 < 12 ∧ y = c - 621 ∧ m = p + 1 + 1 ∧ d = 1) ∨ (szOf z p ≤ r + 1 ∧ p + 1 = 12 ∧ y = c - 621 + 1 ∧ m = 1 ∧ d = 1)
theorem next_unique {z c p r y m d y' m' d' : Int} (h : NextOf z c p r y m d) (h' : NextOf z c p r y' m' d') : y = y' ∧ m = m' ∧ d = d' := by
  unfold NextOf at h h'
  generalize szOf z p = k at *
  omega
theorem month_next {Ec : Int → Int} {D c p r m d : Int} (H : Opens Ec) (a : At Ec D c p r) (hD : D + 1 ≤ Ec (c + 1)) (h : MonthDay (D + 1 - Ec c) m d) : NextOf (Ec (c + 1) - Ec c) c p r (c - 621) m d := by
  have b1 := a.p0; have b2 := a.p1; have b3 := a.r0; have b4 := a.r1; have b5 := a.s
  have h1 := H.lo c
  have h2 := H.hi c
  unfold MonthDay at h
  unfold NextOf
  generalize hx : Ec (c + 1) - Ec c = x at *
  generalize hg : D + 1 - Ec c = g at *
  unfold szOf at *
  unfold smOf at b5
  have : p = 0 ∨ p = 1 ∨ p = 2 ∨ p = 3 ∨ p = 4 ∨ p = 5 ∨ p = 6 ∨ p = 7 ∨ p = 8 ∨ p = 9 ∨ p = 10 ∨ p = 11 := by omega
  rcases this with h | h | h | h | h | h | h | h | h | h | h | h <;> subst h <;> simp at b4 b5 ⊢ <;> omega
theorem year_next {Ec : Int → Int} {D c p r y m d : Int} (H : Opens Ec) (a : At Ec D c p r) (hD : D = Ec (c + 1)) (hy : y = c + 1 - 621) (h : MonthDay (D + 1 - Ec (c + 1)) m d) : NextOf (Ec (c + 1) - Ec c) c p r y m d := by
  rw [hD, show Ec (c + 1) + 1 - Ec (c + 1) = 1 by omega] at h
  obtain ⟨hm, hd⟩ := month_one h
  have b1 := a.p0; have b2 := a.p1; have b3 := a.r0; have b4 := a.r1; have b5 := a.s
  have h1 := H.lo c
  have h2 := H.hi c
  unfold NextOf
  rw [hD] at b5
  generalize hx : Ec (c + 1) - Ec c = x at *
  unfold szOf at *
  unfold smOf at b5
  have : p = 0 ∨ p = 1 ∨ p = 2 ∨ p = 3 ∨ p = 4 ∨ p = 5 ∨ p = 6 ∨ p = 7 ∨ p = 8 ∨ p = 9 ∨ p = 10 ∨ p = 11 := by omega
  rcases this with h | h | h | h | h | h | h | h | h | h | h | h <;> subst h <;> simp at b4 b5 ⊢ <;> omega
theorem twelve_persian {z : Int} {t0 t1 t2 t3 t4 t5 t6 t7 t8 t9 ta tb : Tok} : Twelve [.int 31 t0, .int 31 t1, .int 31 t2, .int 31 t3, .int 31 t4, .int 31 t5, .int 30 t6, .int 30 t7, .int 30 t8, .int 30 t9, .int 30 ta, .int (z - 336) tb] (szOf z) := by
  refine ⟨rfl, fun p h0 h1 => ?_⟩
  have : p = 0 ∨ p = 1 ∨ p = 2 ∨ p = 3 ∨ p = 4 ∨ p = 5 ∨ p = 6 ∨ p = 7 ∨ p = 8 ∨ p = 9 ∨ p = 10 ∨ p = 11 := by omega
  rcases this with h | h | h | h | h | h | h | h | h | h | h | h <;> subst h <;> exact ⟨_, rfl⟩
end Mine

end

section
open PySem PySem.W PyProof.Rows PySem.Spec PySem.Calls
set_option maxRecDepth 100000
namespace Mine
section
variable {w : World} {need : Led} {q : Addr} {vs : List Value} {f : Addr} {D U : Nat}
theorem Says.imp {Ret Ret' : Heap → Addr → (Str → Option Value) → Led → Shared → (Value → Shared → Prop) → Prop} (C : Says w need f vs D U Ret) (h : ∀ h₀ L m news s Q, Ret' h₀ L m news s Q → Ret h₀ L m news s Q) : Says w need f vs D U Ret' :=
  fun _ _ _ _ _ _ _ _ _ _ _ _ _ _ _ _ _ _ _ _ _ _ _ B F X N T hk hn hd hu r => C _ _ _ _ _ _ _ _ _ _ _ _ _ _ _ _ _ _ _ _ _ _ _ B F X N T hk hn hd hu (h _ _ _ _ _ _ r)
theorem Says.t3 {P P' : Int → Int → Int → Prop} (C : Says w need f vs D U (RetT3 P)) (h : ∀ y m d, P y m d → P' y m d) : Says w need f vs D U (RetT3 P') :=
  C.imp fun _ _ _ _ _ _ r x y mo d t1 t2 t3 h' tk' hp F N l => r x y mo d t1 t2 t3 h' tk' (h _ _ _ hp) F N l
theorem Says.t2 {P P' : Int → Int → Prop} (C : Says w need f vs D U (RetT2 P)) (h : ∀ y m, P y m → P' y m) : Says w need f vs D U (RetT2 P') :=
  C.imp fun _ _ _ _ _ _ r x y mo t1 t2 h' tk' hp F N l => r x y mo t1 t2 h' tk' (h _ _ hp) F N l
end
theorem at_year {c : Int} : c - 621 + 621 = c := by omega
theorem at_year' {c : Int} : c - 621 + 622 = c + 1 := by omega
theorem sz_le {z p : Int} (h : z ≤ 366) : szOf z p ≤ 31 := by unfold szOf; split <;> (try split) <;> omega
theorem sm_mo {z p : Int} (h0 : 0 ≤ p) (h1 : p < 12) : (p + 1 ≤ 7 ∧ smOf z p = (p + 1 - 1) * 31) ∨ (7 < p + 1 ∧ smOf z p = (p + 1 - 1) * 30 + 6) := by
  unfold smOf
  rcases Int.lt_or_le 6 p with h | h
  · rw [if_neg (by omega), if_pos (by omega)]; omega
  · rw [if_pos (by omega)]; omega
theorem c_fromjd_at (w : World) (need : Led) (q : Addr) (Ec : Int → Int) (D c p r : Int) (t : PySem.Tok) (hE : EqFn w need q Ec) (H : Opens Ec) (a : At Ec D c p r) : Says w need 108 [.float (Flo.hf (2 * D - 1)) t, .ref q] 14 112 (RetT3 fun y m d => y = c - 621 ∧ m = p + 1 ∧ d = r + 1) :=
  (c_fromjd w need q Ec D c t hE H (by have := a.y1; omega) (by have := a.y2; omega) a.e1 a.e2).t3 fun _ _ _ h => ⟨h.1, month_day H a h.2⟩
theorem c_fromjd_next (w : World) (need : Led) (q : Addr) (Ec : Int → Int) (D c p r : Int) (t : PySem.Tok) (hE : EqFn w need q Ec) (H : Opens Ec) (a : At Ec D c p r) : Says w need 108 [.float (Flo.hf (2 * (D + 1) - 1)) t, .ref q] 14 112 (RetT3 (NextOf (Ec (c + 1) - Ec c) c p r)) := by
  have y1 := a.y1; have y2 := a.y2; have e1 := a.e1; have e2 := a.e2
  have hi := H.lo (c + 1)
  rcases Int.lt_or_le D (Ec (c + 1)) with h | h
  · exact (c_fromjd w need q Ec (D + 1) c t hE H (by omega) (by omega) (by omega) (by omega)).t3 fun y m d h' => by rw [h'.1]; exact month_next H a (by omega) h'.2
  · exact (c_fromjd w need q Ec (D + 1) (c + 1) t hE H (by omega) (by omega) (by omega) (by omega)).t3 fun y m d h' => year_next H a (by omega) h'.1 h'.2
theorem c_tojd_at (w : World) (need : Led) (q : Addr) (Ec : Int → Int) (D c p r : Int) (t1 t2 t3 : PySem.Tok) (hE : EqFn w need q Ec) (H : Opens Ec) (a : At Ec D c p r) : Says w need 101 [.int (c - 621) t1, .int (p + 1) t2, .int (r + 1) t3, .ref q] 16 128 (RetF (2 * D - 1)) := by
  have y1 := a.y1; have y2 := a.y2; have e1 := a.e1; have e2 := a.e2; have p0 := a.p0; have p1 := a.p1; have r0 := a.r0; have r1 := a.r1; have s := a.s
  have lo := H.lo c; have hi := H.hi c
  have z := sz_le (p := p) (show Ec (c + 1) - Ec c ≤ 366 by omega)
  have e : 2 * D - 1 = 2 * (Ec (c - 621 + 621) - 1 + smOf (Ec (c + 1) - Ec c) p + (r + 1)) + 1 := by rw [at_year]; omega
  rw [e]
  exact c_tojd w need q Ec (c - 621) (p + 1) (r + 1) _ t1 t2 t3 hE H (by omega) (by omega) (by omega) (by omega) (by omega) (by omega) (sm_mo p0 p1)
theorem c_leap_at (w : World) (need : Led) (q : Addr) (Ec : Int → Int) (D c p r : Int) (t : PySem.Tok) (hE : EqFn w need q Ec) (H : Opens Ec) (a : At Ec D c p r) : Says w need 80 [.int (c - 621) t, .ref q] 18 144 (RetB (decide (Ec (c + 1) - Ec c = 366))) := by
  have y1 := a.y1; have y2 := a.y2; have e1 := a.e1; have e2 := a.e2; have p0 := a.p0; have p1 := a.p1; have r0 := a.r0; have r1 := a.r1; have s := a.s
  have lo := H.lo c; have hi := H.hi c
  refine c_leap w need q Ec (c - 621) t _ hE H (by omega) (by omega) ?_
  rw [at_year, at_year']
  exact decide_eq_decide.mpr (by omega)
theorem c_mlen_at (w : World) (need : Led) (q : Addr) (Ec : Int → Int) (D c p r : Int) (t1 t2 : PySem.Tok) (hE : EqFn w need q Ec) (H : Opens Ec) (a : At Ec D c p r) : Says w need 129 [.int (c - 621) t1, .int (p + 1) t2, .ref q] 20 160 (RetI (szOf (Ec (c + 1) - Ec c) p)) := by
  have y1 := a.y1; have y2 := a.y2; have e1 := a.e1; have e2 := a.e2; have p0 := a.p0; have p1 := a.p1; have r0 := a.r0; have r1 := a.r1; have s := a.s
  have lo := H.lo c; have hi := H.hi c
  refine c_mlen w need q Ec (c - 621) (p + 1) _ t1 t2 hE H (by omega) (by omega) (by omega) (by omega) ?_
  rw [at_year, at_year']
  unfold szOf
  rcases Int.lt_or_le p 6 with h | h
  · rw [if_pos h]; omega
  rcases Int.lt_or_le p 11 with h' | h'
  · rw [if_neg (by omega), if_pos h']; omega
  · rw [if_neg (by omega), if_neg (by omega)]; omega
theorem c_pyear_at (w : World) (need : Led) (q : Addr) (Ec : Int → Int) (D c p r : Int) (t : PySem.Tok) (hE : EqFn w need q Ec) (H : Opens Ec) (a : At Ec D c p r) : Says w need 94 [.float (Flo.hf (2 * D - 1)) t, .ref q] 14 112 (RetT2 fun y _ => y = c - 621) := by
  have y1 := a.y1; have y2 := a.y2; have e1 := a.e1; have e2 := a.e2; have p0 := a.p0; have p1 := a.p1; have r0 := a.r0; have r1 := a.r1; have s := a.s
  have lo := H.lo c; have hi := H.hi c
  have n1 := H.near1 c
  have n2 := H.near2 c
  have hb : -20000000 < D ∧ D < 20000000 := by
    generalize Ec c = e1 at *
    generalize Ec (c + 1) = e2 at *
    clear s r1
    omega
  have hfl := Flo.flIs_hf (a := 2 * D - 1) (by omega)
  rw [show (2 * D - 1) / 2 = D - 1 by omega] at hfl
  exact (c_pyear w need q Ec _ (D - 1) c t hE H ⟨hfl, by omega, by omega, by omega, by omega⟩).t2 fun _ _ h => h.1
theorem c_togreg_at (w : World) (need : Led) (q : Addr) (Ec : Int → Int) (D c p r : Int) (t1 t2 t3 : PySem.Tok) (hE : EqFn w need q Ec) (H : Opens Ec) (a : At Ec D c p r) : Says w need 122 [.int (c - 621) t1, .int (p + 1) t2, .int (r + 1) t3, .ref q] 18 144 (RetT3 (IsDate D)) := by
  have y1 := a.y1; have y2 := a.y2; have e1 := a.e1; have e2 := a.e2; have p0 := a.p0; have p1 := a.p1; have r0 := a.r0; have r1 := a.r1; have s := a.s
  have lo := H.lo c; have hi := H.hi c
  have z := sz_le (p := p) (show Ec (c + 1) - Ec c ≤ 366 by omega)
  have e : D = Ec (c - 621 + 621) + smOf (Ec (c + 1) - Ec c) p + (r + 1) := by rw [at_year]; omega
  have C := c_togreg w need q Ec (c - 621) (p + 1) (r + 1) _ t1 t2 t3 hE H (by omega) (by omega) (by omega) (by omega) (by omega) (by omega) (sm_mo (z := Ec (c + 1) - Ec c) p0 p1)
  rw [← e] at C
  exact C
theorem c_fromgreg_at (w : World) (need : Led) (q : Addr) (Ec : Int → Int) (D c p r : Int) (y m d : Int) (t1 t2 t3 : PySem.Tok) (hE : EqFn w need q Ec) (H : Opens Ec) (a : At Ec D c p r) (hd : IsDate D y m d) : Says w need 115 [.int y t1, .int m t2, .int d t3, .ref q] 18 144 (RetT3 fun y m d => y = c - 621 ∧ m = p + 1 ∧ d = r + 1) := by
  have y1 := a.y1; have y2 := a.y2; have e1 := a.e1; have e2 := a.e2; have p0 := a.p0; have p1 := a.p1; have r0 := a.r0; have r1 := a.r1; have s := a.s
  have lo := H.lo c; have hi := H.hi c
  have n1 := H.near1 c
  have n2 := H.near2 c
  have hb : -20000000 < D ∧ D < 20000000 := by
    generalize Ec c = e1 at *
    generalize Ec (c + 1) = e2 at *
    clear s r1
    omega
  have hy := hd.inYear.near hb.1 (by omega)
  exact (c_fromgreg w need q Ec y m d D c t1 t2 t3 hE H (by omega) (by omega) e1 e2 hd hy.1 hy.2).t3 fun _ _ _ h => ⟨h.1, month_day H a h.2⟩
theorem c_lawnext_at (w : World) (need : Led) (Ec : Int → Int) (D c p r : Int) (dt sl : Addr) (t1 t2 t3 : PySem.Tok) (vs : List Value) (nn : Nat) (hdt : (dt, tup3 (.int (c - 621) t1) (.int (p + 1) t2) (.int (r + 1) t3)) ∈ need) (hsl : (sl, listObj vs nn) ∈ need) (hv : Twelve vs (szOf (Ec (c + 1) - Ec c))) (a : At Ec D c p r) :
    Says w need 170 [.ref dt, .ref sl] 1 16 (RetT3 (NextOf (Ec (c + 1) - Ec c) c p r)) := by
  have p0 := a.p0; have p1 := a.p1
  refine (c_lawnext w need dt sl (c - 621) (p + 1) (r + 1) t1 t2 t3 vs nn _ hdt hsl hv (by omega) (by omega)).t3 fun y m d h => ?_
  rw [show p + 1 - 1 = p by omega] at h
  unfold NextOf
  omega
structure RomanIs (D y m d : Int) : Prop where
  h : IsDate D y m d
structure ThereIs (z c p r y m d : Int) : Prop where
  h : NextOf z c p r y m d
theorem at_mk {Ec : Int → Int} {D f c p r : Int} (hf1 : -40000 ≤ f - 622) (hf2 : f - 622 ≤ 40000) (h1 : f - 3 ≤ c) (h2 : c ≤ f + 15) (h3 : Ec c < D) (h4 : D ≤ Ec (c + 1))
    (P : 0 ≤ p ∧ p < 12 ∧ 0 ≤ r ∧ r < szOf (Ec (c + 1) - Ec c) p ∧ smOf (Ec (c + 1) - Ec c) p + r = D - Ec c - 1) : At Ec D c p r :=
  ⟨by omega, by omega, h3, h4, P.1, P.2.1, P.2.2.1, P.2.2.2.1, P.2.2.2.2⟩
theorem need_two {news : Led} {q q' : Addr × Obj} (h : q ∈ news) (h' : q' ∈ news) : ∀ p ∈ [q, q'], p ∈ news := fun p hp => by
  rcases List.mem_cons.mp hp with e | hp
  · rw [e]; exact h
  · rw [List.mem_singleton.mp hp]; exact h'
theorem sm_top {z r : Int} (h : r < z) : r < smOf z 12 := h
end Mine

end

section
open PySem PySem.W PyProof.Rows PySem.Spec PySem.Calls
set_option Elab.async false
set_option maxRecDepth 100000
namespace Mine
local macro_rules | `(tactic| walk_at "eval Constant float") => `(tactic| (k_dflt (refine Flo.k_const Flo.half_lit ?_)))
local macro_rules | `(tactic| walk_at "binaryOp Sub float float") => `(tactic| (k_dflt ((fail_if_success (with_reducible show wpAny _ _ (binaryOp _ _ (Value.float (Flo.hf _) _)) _ _ _)); (fail_if_success (with_reducible show wpAny _ _ (binaryOp _ _ (Value.float Flo.TROP _)) _ _ _)); refine Flo.k_subL Flo.epg_lit ?_)))
local macro_rules | `(tactic| walk_at "binaryOp Sub float float") => `(tactic| (k_dflt ((fail_if_success (with_reducible show wpAny _ _ (binaryOp _ _ (Value.float (Flo.hf _) _)) _ _ _)); (fail_if_success (with_reducible show wpAny _ _ (binaryOp _ _ (Value.float Flo.TROP _)) _ _ _)); refine Flo.k_subL Flo.epp_lit ?_)))
local macro_rules | `(tactic| walk_at "binaryOp Sub int float") => `(tactic| (k_dflt ((fail_if_success (with_reducible show wpAny _ _ (binaryOp _ _ (Value.float (Flo.hf _) _)) _ _ _)); (fail_if_success (with_reducible show wpAny _ _ (binaryOp _ _ (Value.float Flo.TROP _)) _ _ _)); refine Flo.k_subL Flo.epp_lit ?_)))
local macro_rules | `(tactic| walk_at "binaryOp Sub float int") => `(tactic| (k_dflt ((fail_if_success (with_reducible show wpAny _ _ (binaryOp _ (Value.float (Flo.hf _) _) _) _ _ _)); (fail_if_success (with_reducible show wpAny _ _ (binaryOp _ (Value.float Flo.TROP _) _) _ _ _)); refine Flo.k_Lsub Flo.epg_lit ?_)))
local macro_rules | `(tactic| walk_at "binaryOp Sub float int") => `(tactic| (k_dflt ((fail_if_success (with_reducible show wpAny _ _ (binaryOp _ (Value.float (Flo.hf _) _) _) _ _ _)); (fail_if_success (with_reducible show wpAny _ _ (binaryOp _ (Value.float Flo.TROP _) _) _ _ _)); refine Flo.k_Lsub Flo.epp_lit ?_)))
local macro_rules | `(tactic| walk_at "binaryOp Mult float int") => `(tactic| (k_dflt ((fail_if_success (with_reducible show wpAny _ _ (binaryOp _ (Value.float (Flo.hf _) _) _) _ _ _)); (fail_if_success (with_reducible show wpAny _ _ (binaryOp _ (Value.float Flo.TROP _) _) _ _ _)); refine Flo.k_Lmul Flo.trop_lit ?_)))
local macro_rules | `(tactic| walk_at "binaryOp Div float float") => `(tactic| (k_dflt ((fail_if_success (with_reducible show wpAny _ _ (binaryOp _ _ (Value.float (Flo.hf _) _)) _ _ _)); (fail_if_success (with_reducible show wpAny _ _ (binaryOp _ _ (Value.float Flo.TROP _)) _ _ _)); refine Flo.k_divL Flo.trop_lit ?_)))
local macro_rules | `(tactic| walk_at "binaryOp Add int float") => `(tactic| (k_dflt ((fail_if_success (with_reducible show wpAny _ _ (binaryOp _ _ (Value.float (Flo.hf _) _)) _ _ _)); (fail_if_success (with_reducible show wpAny _ _ (binaryOp _ _ (Value.float Flo.TROP _)) _ _ _)); refine Flo.k_addL Flo.trop_lit ?_)))
local macro_rules | `(tactic| walk_at "binaryOp Add int bool") => `(tactic| (first | refine' Flo.k_addit ?_ | refine' Flo.k_addif0 ?_))
local macro_rules | `(tactic| walk_at "binaryOp Add float float") => `(tactic| ((with_reducible show wpAny _ _ (binaryOp _ (Value.float (Flo.hf _) _) (Value.float (Flo.hf _) _)) _ _ _); refine' Flo.k_addff ?_ ?a0 ?a1; (case a0 => k_dflt omega); (case a1 => k_dflt omega)))
local macro_rules | `(tactic| walk_at "binaryOp Sub float float") => `(tactic| ((with_reducible show wpAny _ _ (binaryOp _ (Value.float (Flo.hf _) _) (Value.float (Flo.hf _) _)) _ _ _); refine' Flo.k_subff ?_ ?a0 ?a1; (case a0 => k_dflt omega); (case a1 => k_dflt omega)))
local macro_rules | `(tactic| walk_at "binaryOp Add float int") => `(tactic| ((fail_if_success (with_reducible show wpAny _ _ (binaryOp _ (Value.float (Flo.hf _) _) _) _ _ _)); refine' Flo.k_addQi ?_ ?hq ?h1 ?h2 ?h3 ?h4; (case hq => with_reducible assumption); (case h1 => k_dflt decide); (case h2 => k_dflt decide); (case h3 => k_dflt omega); (case h4 => k_dflt omega); intro _ _))
local macro_rules | `(tactic| walk_at "binaryOp Add float int") => `(tactic| ((with_reducible show wpAny _ _ (binaryOp _ (Value.float (Flo.hf _) _) (Value.int _ _)) _ _ _); refine' Flo.k_addfi ?_ ?a ?b; (case a => k_dflt omega); (case b => k_dflt omega)))
local macro_rules | `(tactic| walk_at "binaryOp Add int float") => `(tactic| ((with_reducible show wpAny _ _ (binaryOp _ (Value.int _ _) (Value.float Flo.TROP _)) _ _ _); refine' Flo.k_addiX ?_ ?a0; (case a0 => k_dflt omega)))
local macro_rules | `(tactic| walk_at "binaryOp Add float int") => `(tactic| ((with_reducible show wpAny _ _ (binaryOp _ (Value.float (Float64.add _ _) _) (Value.int _ _)) _ _ _); refine' Flo.k_addXi ?_ ?a0; (case a0 => k_dflt omega)))
local macro_rules | `(tactic| walk_at "binaryOp Add int float") => `(tactic| ((with_reducible show wpAny _ _ (binaryOp _ (Value.int _ _) (Value.float (Flo.hf _) _)) _ _ _); refine' Flo.k_addif ?_ ?a0 ?a1; (case a0 => k_dflt omega); (case a1 => k_dflt omega)))
local macro_rules | `(tactic| walk_at "binaryOp Sub float int") => `(tactic| ((with_reducible show wpAny _ _ (binaryOp _ (Value.float (Flo.hf _) _) (Value.int _ _)) _ _ _); refine' Flo.k_subfi ?_ ?a0 ?a1; (case a0 => k_dflt omega); (case a1 => k_dflt omega)))
local macro_rules | `(tactic| walk_at "binaryOp Sub int float") => `(tactic| ((with_reducible show wpAny _ _ (binaryOp _ (Value.int _ _) (Value.float (Flo.hf _) _)) _ _ _); refine' Flo.k_subif ?_ ?a0 ?a1; (case a0 => k_dflt omega); (case a1 => k_dflt omega)))
local macro_rules | `(tactic| walk_at "binaryOp Mult float int") => `(tactic| ((with_reducible show wpAny _ _ (binaryOp _ (Value.float (Flo.hf _) _) (Value.int _ _)) _ _ _); refine' Flo.k_mulfi ?_ ?a0 ?a1 ?a2 ?a3; (case a0 => k_dflt omega); (case a1 => k_dflt omega); (case a2 => k_dflt decide); (case a3 => k_dflt decide)))
local macro_rules | `(tactic| walk_at "binaryOp Mult float int") => `(tactic| ((with_reducible show wpAny _ _ (binaryOp _ (Value.float Flo.TROP _) (Value.int _ _)) _ _ _); refine' Flo.k_mulT ?_ ?a0; (case a0 => k_dflt omega)))
local macro_rules | `(tactic| walk_at "binaryOp Mod float int") => `(tactic| ((with_reducible show wpAny _ _ (binaryOp _ (Value.float (Flo.hf _) _) (Value.int _ _)) _ _ _); refine' Flo.k_modfi ?_ ?a0 ?a1 ?a2 ?a3; (case a0 => k_dflt omega); (case a1 => k_dflt omega); (case a2 => k_dflt decide); (case a3 => k_dflt decide); intro _ _ _ _ _))
local macro_rules | `(tactic| walk_at "binaryOp Mod float int") => `(tactic| ((with_reducible show wpAny _ _ (binaryOp _ (Value.float (Flo.hf (2 * _)) _) (Value.int _ _)) _ _ _); refine' Flo.k_modfi2 ?_ ?a0 ?a1 ?a2; (case a0 => k_dflt omega); (case a1 => k_dflt decide); (case a2 => k_dflt decide)))
local macro_rules | `(tactic| walk_at "binaryOp Div float int") => `(tactic| ((with_reducible show wpAny _ _ (binaryOp _ (Value.float (Flo.hf _) _) (Value.int _ _)) _ _ _); refine' Flo.k_divfi ?_ ?a0 ?a1 ?a2 ?a3; (case a0 => k_dflt omega); (case a1 => k_dflt omega); (case a2 => k_dflt decide); (case a3 => k_dflt decide); intro _ _ _ _))
local macro_rules | `(tactic| walk_at "binaryOp Div float int") => `(tactic| ((with_reducible show wpAny _ _ (binaryOp _ (Value.float (Flo.hf (2 * _)) _) (Value.int _ _)) _ _ _); refine' Flo.k_divfi2 ?_ ?a0 ?a1 ?a2; (case a0 => k_dflt omega); (case a1 => k_dflt decide); (case a2 => k_dflt decide); intro _ _))
local macro_rules | `(tactic| walk_at "binaryOp Div float float") => `(tactic| ((with_reducible show wpAny _ _ (binaryOp _ (Value.float (Flo.hf _) _) (Value.float Flo.TROP _)) _ _ _); refine Flo.k_divT ?_))
local macro_rules | `(tactic| walk_at "binaryOp Div int int") => `(tactic| (refine' Flo.k_divii ?_ ?a0 ?a1 ?a2; (case a0 => k_dflt omega); (case a1 => k_dflt decide); (case a2 => k_dflt decide); intro _ _))
local macro_rules | `(tactic| walk_at "call builtin:math.floor") => `(tactic| ((with_reducible show wpAny _ _ (call _ [(Value.float (Flo.hf _) _)]) _ _ _); refine' Flo.k_floorH ?_ ?h1 ?h2; (case h1 => k_dflt omega); (case h2 => k_dflt exact rfl); intro _ _ _))
local macro_rules | `(tactic| walk_at "call builtin:math.floor") => `(tactic| ((fail_if_success (with_reducible show wpAny _ _ (call _ [(Value.float (Flo.hf _) _)]) _ _ _)); refine' Flo.k_floorQ ?hq ?_ ?h1 ?h2 ?h3; (case hq => with_reducible assumption); (case h1 => k_dflt decide); (case h2 => k_dflt decide); (case h3 => k_dflt exact rfl); intro _ _ _))
local macro_rules | `(tactic| walk_at "call builtin:math.floor") => `(tactic| ((fail_if_success (with_reducible show wpAny _ _ (call _ [(Value.float (Flo.hf _) _)]) _ _ _)); refine' Flo.k_floorFl ?hq ?_ ?h3; (case hq => with_reducible assumption); (case h3 => k_dflt exact rfl)))
local macro_rules | `(tactic| walk_at "call builtin:math.ceil") => `(tactic| ((fail_if_success (with_reducible show wpAny _ _ (call _ [(Value.float (Flo.hf _) _)]) _ _ _)); refine' Flo.k_ceilQ ?hq ?_ ?h1 ?h2 ?h3; (case hq => with_reducible assumption); (case h1 => k_dflt decide); (case h2 => k_dflt decide); (case h3 => k_dflt exact rfl); intro _ _ _))
local macro_rules | `(tactic| walk_at "call builtin:round") => `(tactic| ((fail_if_success (with_reducible show wpAny _ _ (call _ [(Value.float (Flo.hf _) _)]) _ _ _)); refine' Flo.k_round ?hq ?_ ?h3; (case hq => with_reducible assumption); (case h3 => k_dflt exact rfl)))
local macro_rules | `(tactic| walk_at "call type:int") => `(tactic| ((with_reducible show wpAny _ _ (call _ [(Value.float (Flo.hf _) _)]) _ _ _); refine' Flo.k_intH ?_ ?h1 ?h2; (case h1 => k_dflt omega); (case h2 => k_dflt omega); intro _ _))
local macro_rules | `(tactic| walk_at "compareOp Lt float int") => `(tactic| ((with_reducible show wpAny _ _ (compareOp _ (Value.float (Flo.hf _) _) (Value.int _ _)) _ _ _); refine' Flo.k_ltfi ?_ ?h1; (case h1 => k_dflt omega)))
local macro_rules | `(tactic| walk_at "compareOp LtE float int") => `(tactic| ((with_reducible show wpAny _ _ (compareOp _ (Value.float (Flo.hf _) _) (Value.int _ _)) _ _ _); refine' Flo.k_lefi ?_ ?h1; (case h1 => k_dflt omega)))
local macro_rules | `(tactic| walk_at "compareOp Gt float int") => `(tactic| ((with_reducible show wpAny _ _ (compareOp _ (Value.float (Flo.hf _) _) (Value.int _ _)) _ _ _); refine' Flo.k_gtfi ?_ ?h1; (case h1 => k_dflt omega)))
local macro_rules | `(tactic| walk_at "compareOp NotEq float float") => `(tactic| ((with_reducible show wpAny _ _ (compareOp _ (Value.float (Flo.hf _) _) (Value.float (Flo.hf _) _)) _ _ _); refine' Flo.k_neff ?_ ?h1 ?h2; (case h1 => k_dflt omega); (case h2 => k_dflt omega)))
local macro_rules | `(tactic| walk_at "compareOp Gt int float") => `(tactic| (refine' Flo.k_gtiF ?hq ?_; (case hq => with_reducible assumption)))
local macro_rules | `(tactic| walk_at "compareOp LtE int float") => `(tactic| (refine' Flo.k_leiF ?hq ?_; (case hq => with_reducible assumption)))
local macro_rules | `(tactic| walk_at "compareOp Lt float int") => `(tactic| ((fail_if_success (with_reducible show wpAny _ _ (compareOp _ (Value.float (Flo.hf _) _) _) _ _ _)); refine' Flo.k_ltFi ?hq ?_; (case hq => with_reducible assumption)))
local macro_rules | `(tactic| walk_at "eval Call") => `(tactic| (k_dflt (refine Call_ ?_)))
local macro_rules | `(tactic| walk_at "execs cons") => `(tactic| (k_here; (with_reducible refine gen_tk ?_); intro _; (with_reducible refine wpAny_execs_cons ?_); (try dsimp only)))
local macro_rules | `(tactic| walk_at "my need") => `(tactic| first | with_reducible exact need_nil | with_reducible assumption | ((repeat (with_reducible refine need_cons ?_)); with_reducible assumption))
local macro_rules | `(tactic| walk_at "my N") => `(tactic| first | k_asm | ((rename News _ _ _ _ => nE'); exact fun p hp => nE' p (by (repeat (first | with_reducible exact hp | with_reducible refine List.mem_cons_of_mem _ ?_)))))
local macro_rules | `(tactic| walk_at "my keep") => `(tactic| first | k_asm | exact news_keep (by k_asm) | exact news_keep (news_keep (by k_asm)) | exact news_keep (news_keep (news_keep (by k_asm))) | exact news_keep (news_keep (news_keep (news_keep (by k_asm)))) | exact news_keep (news_keep (news_keep (news_keep (news_keep (by k_asm))))) | exact news_keep (news_keep (news_keep (news_keep (news_keep (news_keep (by k_asm)))))) | exact news_keep (news_keep (news_keep (news_keep (news_keep (news_keep (news_keep (by k_asm))))))) | exact news_keep (news_keep (news_keep (news_keep (news_keep (news_keep (news_keep (news_keep (by k_asm)))))))) | exact news_keep (news_keep (news_keep (news_keep (news_keep (news_keep (news_keep (news_keep (news_keep (by k_asm))))))))) | exact news_keep (news_keep (news_keep (news_keep (news_keep (news_keep (news_keep (news_keep (news_keep (news_keep (by k_asm)))))))))) | exact news_keep (news_keep (news_keep (news_keep (news_keep (news_keep (news_keep (news_keep (news_keep (news_keep (news_keep (by k_asm))))))))))) | exact news_keep (news_keep (news_keep (news_keep (news_keep (news_keep (news_keep (news_keep (news_keep (news_keep (news_keep (news_keep (by k_asm)))))))))))))
local macro_rules | `(tactic| walk_at "my lt") => `(tactic| first | assumption | exact kst_ltOf (by assumption) | exact kst_ltOf (And.right (by assumption)) | exact kst_ltOf (And.right (And.right (by assumption))) | exact kst_ltOf (And.right (And.right (And.right (by assumption)))) | exact kst_ltOf (And.right (And.right (And.right (And.right (by assumption))))) | exact kst_ltOf (And.right (And.right (And.right (And.right (And.right (by assumption)))))) | exact kst_ltOf (And.right (And.right (And.right (And.right (And.right (And.right (by assumption))))))) | exact kst_ltOf (And.right (And.right (And.right (And.right (And.right (And.right (And.right (by assumption)))))))) | exact kst_ltOf (And.right (And.right (And.right (And.right (And.right (And.right (And.right (And.right (by assumption))))))))) | exact kst_ltOf (And.right (And.right (And.right (And.right (And.right (And.right (And.right (And.right (And.right (by assumption)))))))))) | exact kst_ltOf (And.right (And.right (And.right (And.right (And.right (And.right (And.right (And.right (And.right (And.right (by assumption))))))))))) | exact kst_ltOf (And.right (And.right (And.right (And.right (And.right (And.right (And.right (And.right (And.right (And.right (And.right (by assumption)))))))))))) | exact kst_ltOf (And.right (And.right (And.right (And.right (And.right (And.right (And.right (And.right (And.right (And.right (And.right (And.right (by assumption))))))))))))))
local macro_rules | `(tactic| walk_at "my need") => `(tactic| ((with_reducible refine need_one ?_); k_mem))
local macro_rules | `(tactic| walk_at "callWith ref") => `(tactic| (k_here; k_dflt (refine' callWith_F ?k1 ?_; (case k1 => refine' EqFn.at ?e ?N ?n; (case e => assumption); (case N => k_asm); (case n => walk_at "my need")); k_whole)))
local macro_rules | `(tactic| walk_at "And") => `(tactic| ((with_reducible show FnAt _ _ ∧ _); k_dflt (refine' ⟨?k1, ?_⟩; (case k1 => refine' EqFn.at ?e ?N ?n; (case e => assumption); (case N => k_asm); (case n => walk_at "my need"))); (try dsimp only [List.nil_append, List.cons_append])))
local macro_rules | `(tactic| walk_at "call ref") => `(tactic| (k_here; k_dflt (refine' Says.use (EqFn.use (by assumption) _ _) ?k1 ?k2 ?k3 ?k4 ?k5 ?k6 ?k7 ?k8 ?k9 ?_; (case k1 => k_asm); (case k2 => k_asm); (case k3 => k_asm); (case k4 => k_asm); (case k5 => k_asm); (case k6 => first | exact rfl | assumption); (case k7 => walk_at "my need"); (case k8 => ktr_room); (case k9 => ktr_units); k_whole; (intro t9 h9 tk9 F9 N9); (all_goals (try dsimp only)); (all_goals (try k_fold)))))
local macro_rules | `(tactic| walk_at "exec While Compare cons nil") => `(tactic| (k_dflt (k_extra "exec While Compare cons nil")))
local macro_rules | `(tactic| walk_at "KswEnd") => `(tactic| (k_dflt ksw_close))
local macro_rules | `(tactic| walk_at "my need") => `(tactic| ((with_reducible refine need_two ?_ ?_) <;> k_mem))
local macro_rules | `(tactic| walk_at "my side") => `(tactic| first | exact twelve_persian | exact sm_top (by omega))
local macro_rules | `(tactic| walk_at "call ref") => `(tactic| (k_here; k_dflt (refine' Says.use (c_lawoff _ [(_, listObj _ _)] _ _ _ _ _ _ _ (List.mem_singleton.mpr rfl) ?x1 (sums_persian _) ?s2 ?x3) ?k1 ?k2 ?k3 ?k4 ?k5 ?k6 ?k7 ?k8 ?k9 ?_; (case k1 => k_asm); (case k2 => k_asm); (case k3 => k_asm); (case k4 => k_asm); (case k5 => k_asm); (case k6 => first | exact rfl | assumption); (case k7 => walk_at "my need"); (case s2 => first | assumption | omega | decide | exact one_le_ml _ _ | ((try dsimp only); omega)); (case x1 => walk_at "my side"); (case x3 => walk_at "my side"); (case k8 => ktr_room); (case k9 => ktr_units); k_whole; (intro x9 y9 mo9 t91 t92 h9 tk9 P9 F9 N9 l9; (try k_lt l9)); (have a9 := at_mk (by assumption) (by assumption) (by assumption) (by assumption) (by assumption) (by omega) P9); clear P9; (all_goals (try dsimp only)); (all_goals (try k_fold)))))
local macro_rules | `(tactic| walk_at "call ref") => `(tactic| (k_here; k_dflt (refine' Says.use (c_lawjd _ _ _ ?s1 ?s2) ?k1 ?k2 ?k3 ?k4 ?k5 ?k6 ?k7 ?k8 ?k9 ?_; (case k1 => k_asm); (case k2 => k_asm); (case k3 => k_asm); (case k4 => k_asm); (case k5 => k_asm); (case k6 => first | exact rfl | assumption); (case k7 => walk_at "my need"); (case s1 => first | assumption | omega | decide | exact one_le_ml _ _ | ((try dsimp only); omega)); (case s2 => first | assumption | omega | decide | exact one_le_ml _ _ | ((try dsimp only); omega)); (case k8 => ktr_room); (case k9 => ktr_units); k_whole; (intro t9 h9 tk9 F9 N9); (all_goals (try dsimp only)); (all_goals (try k_fold)))))
local macro_rules | `(tactic| walk_at "call ref") => `(tactic| (k_here; k_dflt (refine' Says.use (c_fromjd_at _ _ _ _ _ _ _ _ _ (by assumption) (by assumption) (by assumption)) ?k1 ?k2 ?k3 ?k4 ?k5 ?k6 ?k7 ?k8 ?k9 ?_; (case k1 => k_asm); (case k2 => k_asm); (case k3 => k_asm); (case k4 => k_asm); (case k5 => k_asm); (case k6 => first | exact rfl | assumption); (case k7 => walk_at "my need"); (case k8 => ktr_room); (case k9 => ktr_units); k_whole; (intro x9 y9 mo9 d9 t91 t92 t93 h9 tk9 P9 F9 N9 l9; (try k_lt l9)); (obtain ⟨hy9, hm9, hd9⟩ := P9; subst hy9 hm9 hd9); (all_goals (try dsimp only)); (all_goals (try k_fold)))))
local macro_rules | `(tactic| walk_at "call ref") => `(tactic| (k_here; k_dflt (refine' Says.use (c_fromjd_next _ _ _ _ _ _ _ _ _ (by assumption) (by assumption) (by assumption)) ?k1 ?k2 ?k3 ?k4 ?k5 ?k6 ?k7 ?k8 ?k9 ?_; (case k1 => k_asm); (case k2 => k_asm); (case k3 => k_asm); (case k4 => k_asm); (case k5 => k_asm); (case k6 => first | exact rfl | assumption); (case k7 => walk_at "my need"); (case k8 => ktr_room); (case k9 => ktr_units); k_whole; (intro x9 y9 mo9 d9 t91 t92 t93 h9 tk9 P9 F9 N9 l9; (try k_lt l9)); (have r9 := ThereIs.mk P9; clear P9); (all_goals (try dsimp only)); (all_goals (try k_fold)))))
local macro_rules | `(tactic| walk_at "call ref") => `(tactic| (k_here; k_dflt (refine' Says.use (c_lawnext_at _ [(_, tup3 _ _ _), (_, listObj _ _)] _ _ _ _ _ _ _ _ _ _ _ _ (List.Mem.head _) (List.Mem.tail _ (List.Mem.head _)) ?x1 (by assumption)) ?k1 ?k2 ?k3 ?k4 ?k5 ?k6 ?k7 ?k8 ?k9 ?_; (case k1 => k_asm); (case k2 => k_asm); (case k3 => k_asm); (case k4 => k_asm); (case k5 => k_asm); (case k6 => first | exact rfl | assumption); (case k7 => walk_at "my need"); (case x1 => walk_at "my side"); (case k8 => ktr_room); (case k9 => ktr_units); k_whole; (intro x9 y9 mo9 d9 t91 t92 t93 h9 tk9 P9 F9 N9 l9; (try k_lt l9)); (obtain ⟨hy9, hm9, hd9⟩ := next_unique (ThereIs.h (by assumption)) P9; subst hy9 hm9 hd9); (all_goals (try dsimp only)); (all_goals (try k_fold)))))
local macro_rules | `(tactic| walk_at "call ref") => `(tactic| (k_here; k_dflt (refine' Says.use (c_tojd_at _ _ _ _ _ _ _ _ _ _ _ (by assumption) (by assumption) (by assumption)) ?k1 ?k2 ?k3 ?k4 ?k5 ?k6 ?k7 ?k8 ?k9 ?_; (case k1 => k_asm); (case k2 => k_asm); (case k3 => k_asm); (case k4 => k_asm); (case k5 => k_asm); (case k6 => first | exact rfl | assumption); (case k7 => walk_at "my need"); (case k8 => ktr_room); (case k9 => ktr_units); k_whole; (intro t9 h9 tk9 F9 N9); (all_goals (try dsimp only)); (all_goals (try k_fold)))))
local macro_rules | `(tactic| walk_at "call ref") => `(tactic| (k_here; k_dflt (refine' Says.use (c_leap_at _ _ _ _ _ _ _ _ _ (by assumption) (by assumption) (by assumption)) ?k1 ?k2 ?k3 ?k4 ?k5 ?k6 ?k7 ?k8 ?k9 ?_; (case k1 => k_asm); (case k2 => k_asm); (case k3 => k_asm); (case k4 => k_asm); (case k5 => k_asm); (case k6 => first | exact rfl | assumption); (case k7 => walk_at "my need"); (case k8 => ktr_room); (case k9 => ktr_units); k_whole; (intro h9 tk9 F9 N9); (all_goals (try dsimp only)); (all_goals (try k_fold)))))
local macro_rules | `(tactic| walk_at "call ref") => `(tactic| (k_here; k_dflt (refine' Says.use (c_mlen_at _ _ _ _ _ _ _ _ _ _ (by assumption) (by assumption) (by assumption)) ?k1 ?k2 ?k3 ?k4 ?k5 ?k6 ?k7 ?k8 ?k9 ?_; (case k1 => k_asm); (case k2 => k_asm); (case k3 => k_asm); (case k4 => k_asm); (case k5 => k_asm); (case k6 => first | exact rfl | assumption); (case k7 => walk_at "my need"); (case k8 => ktr_room); (case k9 => ktr_units); k_whole; (intro t9 h9 tk9 F9 N9); (all_goals (try dsimp only)); (all_goals (try k_fold)))))
local macro_rules | `(tactic| walk_at "call ref") => `(tactic| (k_here; k_dflt (refine' Says.use (c_pyear_at _ _ _ _ _ _ _ _ _ (by assumption) (by assumption) (by assumption)) ?k1 ?k2 ?k3 ?k4 ?k5 ?k6 ?k7 ?k8 ?k9 ?_; (case k1 => k_asm); (case k2 => k_asm); (case k3 => k_asm); (case k4 => k_asm); (case k5 => k_asm); (case k6 => first | exact rfl | assumption); (case k7 => walk_at "my need"); (case k8 => ktr_room); (case k9 => ktr_units); k_whole; (intro x9 y9 mo9 t91 t92 h9 tk9 P9 F9 N9 l9; (try k_lt l9)); (subst P9); (all_goals (try dsimp only)); (all_goals (try k_fold)))))
local macro_rules | `(tactic| walk_at "call ref") => `(tactic| (k_here; k_dflt (refine' Says.use (c_lawroman _ _ _ ?s1 ?s2) ?k1 ?k2 ?k3 ?k4 ?k5 ?k6 ?k7 ?k8 ?k9 ?_; (case k1 => k_asm); (case k2 => k_asm); (case k3 => k_asm); (case k4 => k_asm); (case k5 => k_asm); (case k6 => first | exact rfl | assumption); (case k7 => walk_at "my need"); (case s1 => first | assumption | omega | decide | exact one_le_ml _ _ | ((try dsimp only); omega)); (case s2 => first | assumption | omega | decide | exact one_le_ml _ _ | ((try dsimp only); omega)); (case k8 => ktr_room); (case k9 => ktr_units); k_whole; (intro x9 y9 mo9 d9 t91 t92 t93 h9 tk9 P9 F9 N9 l9; (try k_lt l9)); (have r9 := RomanIs.mk P9; clear P9); (all_goals (try dsimp only)); (all_goals (try k_fold)))))
local macro_rules | `(tactic| walk_at "call ref") => `(tactic| (k_here; k_dflt (refine' Says.use (c_togreg_at _ _ _ _ _ _ _ _ _ _ _ (by assumption) (by assumption) (by assumption)) ?k1 ?k2 ?k3 ?k4 ?k5 ?k6 ?k7 ?k8 ?k9 ?_; (case k1 => k_asm); (case k2 => k_asm); (case k3 => k_asm); (case k4 => k_asm); (case k5 => k_asm); (case k6 => first | exact rfl | assumption); (case k7 => walk_at "my need"); (case k8 => ktr_room); (case k9 => ktr_units); k_whole; (intro x9 y9 mo9 d9 t91 t92 t93 h9 tk9 P9 F9 N9 l9; (try k_lt l9)); (obtain ⟨hy9, hm9, hd9⟩ := isDate_unique (RomanIs.h (by assumption)) P9; subst hy9 hm9 hd9); (all_goals (try dsimp only)); (all_goals (try k_fold)))))
local macro_rules | `(tactic| walk_at "call ref") => `(tactic| (k_here; k_dflt (refine' Says.use (c_fromgreg_at _ _ _ _ _ _ _ _ _ _ _ _ _ _ (by assumption) (by assumption) (by assumption) (RomanIs.h (by assumption))) ?k1 ?k2 ?k3 ?k4 ?k5 ?k6 ?k7 ?k8 ?k9 ?_; (case k1 => k_asm); (case k2 => k_asm); (case k3 => k_asm); (case k4 => k_asm); (case k5 => k_asm); (case k6 => first | exact rfl | assumption); (case k7 => walk_at "my need"); (case k8 => ktr_room); (case k9 => ktr_units); k_whole; (intro x9 y9 mo9 d9 t91 t92 t93 h9 tk9 P9 F9 N9 l9; (try k_lt l9)); (obtain ⟨hy9, hm9, hd9⟩ := P9; subst hy9 hm9 hd9); (all_goals (try dsimp only)); (all_goals (try k_fold)))))

local macro_rules | `(tactic| walk_at "subscriptTail Name Name ref int") => `(tactic| (k_here; (with_reducible show wpAny _ _ (subscriptTail _ _ (Value.ref _) (Value.int _ _)) _ _ _); k_dflt (refine' k_item (vs := [_, _, _, _, _, _, _, _, _, _, _, _]) ?N ?m twelve_persian ?a ?b ?_; (case N => k_asm); (case m => k_mem); (case a => exact At.p0 (by assumption)); (case b => exact At.p1 (by assumption)); k_whole; intro _)))

section
variable {prog : Program} {w : World} {A : Around} {E : Value → Shared → Prop} {s : Shared} {u : Tok} {Q : Value → Shared → Prop} {k : Int} {h₀ : Heap} {L : Addr} {news : Led} {dt : Addr} {xs : Array Value} {kk : Nat} {v : Value}
theorem k_titem {value slice : Expr} {vs : List Value} (N : News h₀ L s.heap news) (hm : (dt, ({ cls := .type "tuple", data := .seq vs.toArray kk } : Obj)) ∈ news) (h0 : 0 ≤ k) (h2 : k < 2 ^ 63) (hv : vs[k.toNat]? = some v) (h : Q v s)
    (hs : subscripted slice false (.ref dt) (.int k u) = operate [.ref dt, .int k u] (getItem (.ref dt) (.int k u)) := by with_unfolding_all rfl) :
    wpAny (model prog w) A (subscriptTail value slice (.ref dt) (.int k u)) Q E s := by
  have hv' : vs.toArray[k.toNat]? = some v := by simpa using hv
  have h1 : k < vs.toArray.size := by have := (Array.getElem?_eq_some_iff.mp hv').1; omega
  have ht : IsTup s.heap dt vs.toArray := ⟨_, (N _ hm).1, rfl, kk, rfl⟩
  exact tail_any ht.typeIs slot_tuple_getitem.lookup (getItem_tuple ht (by omega) h2 (seqIndex_of h0 h1) hv' h) hs
end
local macro_rules | `(tactic| walk_at "subscriptTail Name Constant ref int") => `(tactic| (k_here; (with_reducible show wpAny _ _ (subscriptTail _ _ (Value.ref _) (Value.int _ _)) _ _ _); k_dflt (refine' k_titem ?N7 ?m7 ?a7 ?c7 ?d7 ?_; (case N7 => k_asm); (case m7 => k_mem); (case a7 => decide); (case c7 => decide); (case d7 => exact rfl); k_whole)))
theorem leap_same {x : Int} {P : Prop} (h : (decide (x = 366) != (x == 366)) = true) : P := by
  have e : (x == 366) = decide (x = 366) := rfl
  rw [e, bne_self_eq_false] at h
  cases h

set_option maxHeartbeats 8000000 in
theorem c_lawholds (w : World) (need : Led) (q : Addr) (Ec : Int → Int) (D f : Int) (t1 t2 : Tok) (hE : EqFn w need q Ec) (H : Opens Ec) (hf1 : -40000 ≤ f - 622) (hf2 : f - 622 ≤ 40000) (hD1 : Ec (f - 3) < D) (hD2 : D ≤ Ec (f + 16)) :
    Says w need 177 [.int D t1, .int f t2, .ref q] 24 200 (RetB true) := by
  unfold Says
  k_fill
  intro pg loose mean mg mb news dp un gd cn cs a ccd cl outer A₀ base h₀ L mm s Q E B F X N T hk hn9 hd9 hu9 hret
  have hb : -20000000 < D ∧ D < 20000000 := by
    have n1 := H.near1 (f - 3)
    have n2 := H.near2 (f + 16)
    generalize Ec (f - 3) = e1 at *
    generalize Ec (f + 16) = e2 at *
    clear hret
    omega
  k_with "state" => first | omega | exact holds_step H hD2 ⟨by omega, by omega, by omega⟩ (by omega)
  k_with "exec While Compare cons nil" => k_while (fun _ c => f - 3 ≤ c ∧ c ≤ f + 15 ∧ Ec c < D) (fun _ c => (f + 16 - c).toNat) "civil"
  refine wpAny_call ?_
  k_dflt (refine' code_def (binds := [(Str.ofString "day", .int D t1), (Str.ofString "first", .int f t2), (Str.ofString "equinox", .ref q)]) ?k1 ?k2 ?k3 ?k4 ?k5 ?kA ?kF ?kK ?k6 ?k7 ?k8 ?k9 ?kB ?_ ?c2 ?c3 ?c4 ?c5; (case kA => exact rfl); (case kF => exact rfl); (case kK => assumption); (case k1 => k_asm); (case k2 => k_asm); (case k3 => k_asm); (case k4 => k_asm); (case k5 => k_asm); (case k6 => k_is); (case k7 => k_is); (case k8 => ktr_room); (case k9 => exact BindsTo.of_eq rfl); (case c5 => decide); (case kB => exact locs rfl); (case c2 => exact rfl); (case c3 => exact rfl); (case c4 => exact rfl); k_whole; intro g' L' h' FG' F' N' B' X' T'; (try dsimp only [List.reverse_cons, List.reverse_nil, List.nil_append, List.cons_append, List.append_nil]); (try k_lift B'); (try k_fold))
  k_steps
  all_goals (first | exact absurd rfl (by assumption) | exact leap_same (by assumption) | exact endB hret (by k_asm) (by walk_at "my N") rfl | trace_state)
end Mine

end

section
open PySem PySem.W PyProof.Rows PySem.Spec PySem.Calls
set_option maxRecDepth 100000
namespace Mine
/-- a cut behind an expression that is an int: all that is kept of it is P -/
def CutE (P : Int → Prop) (h₀ : Heap) (L : Addr) (m : Str → Option Value) (news : Led) (s : Shared) (v : Value) (s' : Shared) : Prop :=
  ∃ (Y : Int) (t : PySem.Tok) (h' : Heap) (tk' : Nat), v = .int Y t ∧ s' = { s with heap := h', toks := tk' } ∧ P Y ∧ Fr h₀ L h' m ∧ News h₀ L h' news
structure CutEMark (_P : Int → Prop) : Prop where
  mark : True
structure CutEIn : Prop where
  mark : True
structure LamMade : Prop where
  mark : True
section
variable {M : Model} {A : Around} {tr : Sem Value} {E : Value → Shared → Prop} {s : Shared} {P : Int → Prop} {h₀ h' : Heap} {L : Addr} {m : Str → Option Value} {news news' : Led} {Q : Value → Shared → Prop} {t : PySem.Tok} {tk' : Nat}
theorem cutE (_cm : CutEMark P) (_F : Fr h₀ L s.heap m) (_N : News h₀ L s.heap news) (h1 : wpAny M A tr (CutE P h₀ L m news s) E s)
    (h2 : ∀ (Y : Int) (t : PySem.Tok) (h' : Heap) (tk' : Nat), P Y → Fr h₀ L h' m → News h₀ L h' news → Q (.int Y t) { s with heap := h', toks := tk' }) : wpAny M A tr Q E s :=
  wpAny_mono h1 (by rintro v s' ⟨Y, t, h', tk', rfl, rfl, hP, F, N⟩; exact h2 Y t h' tk' hP F N) (fun _ _ h => h)
theorem cutE_end {Y : Int} (F' : Fr h₀ L h' m) (N' : News h₀ L h' news') (hn : ∀ p ∈ news, p ∈ news') (hP : P Y) : CutE P h₀ L m news s (.int Y t) { s with heap := h', toks := tk' } :=
  ⟨Y, t, h', tk', rfl, rfl, hP, F', fun p hp => N' p (hn p hp)⟩
end
def FarOk (Y : Int) : Prop := -40000 ≤ Y ∧ Y ≤ 40000
def MovedOk (Y : Int) : Prop := -10 ≤ Y ∧ Y ≤ 10
def AnyOk (_ : Int) : Prop := True
theorem far_ok {x : Int} : FarOk (x.fmod 80001 - 40000) := by
  rw [Int.fmod_eq_emod_of_nonneg _ (by decide : (0 : Int) ≤ 80001)]
  unfold FarOk
  omega
theorem far_0 : FarOk 0 := by unfold FarOk; omega
theorem moved_ok {x : Int} : MovedOk (x.fmod 21 - 10) := by
  rw [Int.fmod_eq_emod_of_nonneg _ (by decide : (0 : Int) ≤ 21)]
  unfold MovedOk
  omega
theorem moved_0 : MovedOk 0 := by unfold MovedOk; omega
theorem any_ok {x : Int} : AnyOk x := trivial
/-- the sums as a list: nought first, each step 0 or 1 -/
def StairL (l : List Int) (n : Nat) : Prop := l.length = n + 1 ∧ l.getD 0 0 = 0 ∧ ∀ i, i < n → l.getD (i + 1) 0 = l.getD i 0 ∨ l.getD (i + 1) 0 = l.getD i 0 + 1
theorem stair_0 : StairL [0] 0 := ⟨rfl, rfl, fun _ h => absurd h (Nat.not_lt_zero _)⟩
theorem stair_push {l : List Int} {n : Nat} {x : Int} (h : StairL l n) (hx : x = l.getD n 0 ∨ x = l.getD n 0 + 1) : StairL (l ++ [x]) (n + 1) := by
  obtain ⟨h1, h2, h3⟩ := h
  have get : ∀ i, i ≤ n → (l ++ [x]).getD i 0 = l.getD i 0 := fun i hi => by
    rw [List.getD_eq_getElem?_getD, List.getD_eq_getElem?_getD, List.getElem?_append_left (by omega)]
  have last : (l ++ [x]).getD (n + 1) 0 = x := by
    rw [List.getD_eq_getElem?_getD, List.getElem?_append_right (by omega), h1]
    simp
  refine ⟨by rw [List.length_append, h1]; rfl, by rw [get 0 (by omega)]; exact h2, fun i hi => ?_⟩
  rcases Nat.lt_or_ge i n with h | h
  · rw [get _ (by omega), get _ (by omega)]; exact h3 i h
  · have : i = n := by omega
    subst this
    rw [last, get _ (by omega)]
    exact hx
theorem stair_steps {l : List Int} {n : Nat} (h : StairL l n) : Steps (fun p => l.getD p.toNat 0) n := by
  obtain ⟨h1, h2, h3⟩ := h
  refine ⟨h2, fun p p0 p1 => ?_⟩
  have := h3 p.toNat (by omega)
  show l.getD (p + 1).toNat 0 = l.getD p.toNat 0 ∨ l.getD (p + 1).toNat 0 = l.getD p.toNat 0 + 1
  rw [show (p + 1).toNat = p.toNat + 1 by omega]
  exact this
theorem intsAre_get : ∀ {vs : List Value} {ns : List Int}, IntsAre vs ns → vs.length = ns.length ∧ ∀ i, i < ns.length → ∃ t, vs[i]? = some (.int (ns.getD i 0) t)
  | _, _, .nil => ⟨rfl, fun _ h => absurd h (Nat.not_lt_zero _)⟩
  | _, _, .cons k t r => by
    obtain ⟨h1, h2⟩ := intsAre_get r
    refine ⟨by rw [List.length_cons, List.length_cons, h1], fun i hi => ?_⟩
    cases i with
    | zero => exact ⟨t, rfl⟩
    | succ i => exact h2 i (by simpa using hi)
theorem stair_of {vs : List Value} {l : List Int} {n : Nat} (hi : IntsAre vs l) (h : StairL l n) (hn : n ≤ 12) : Stair vs (fun p => l.getD p.toNat 0) n := by
  obtain ⟨h1, h2⟩ := intsAre_get hi
  refine ⟨by rw [h1, h.1]; omega, by omega, by omega, fun p p0 p1 => h2 p.toNat (by rw [h.1]; omega)⟩
/-- the loop that builds the sums: what holds behind a turn -/
def SumsJ (sl : Addr) (rest : Led) (x : Str) (m₀ : Str → Option Value) (i : Nat) (m : Str → Option Value) (nx : Led) : Prop :=
  ∃ us ks cnt, nx = (sl, W.listOf (List.toArray us) cnt) :: rest ∧ IntsAre us ks ∧ StairL ks i ∧ ∀ z, z ≠ x → m z = m₀ z
theorem loop_sums {prog : Program} {w : World} {A : Around} {E : Value → Shared → Prop} {Q : Flow → Shared → Prop} {s : Shared} {env : Env} {h₀ : Heap} {x : Str} {body : List Stmt} {l sl : Addr} {vs : List Value} {ns : List Int} {nn : Nat} {m₀ : Str → Option Value} {rest : Led} {t0 : PySem.Tok}
    (hh : A.handled = none) (hl : (l, W.listOf vs.toArray nn) ∈ rest) (hi : IntsAre vs ns) (F : Fr h₀ env.locals s.heap m₀) (N : News h₀ env.locals s.heap ((sl, W.listOf #[.int 0 t0] 0) :: rest))
    (turn : ∀ (us : List Value) (ks : List Int) (cnt i : Nat) (n : Int) (t : PySem.Tok) (h : Heap) (tk : Nat) (own : Led), i < ns.length → us.length = i + 1 → OwnOff own (sl :: rest.map (·.1)) → IntsAre us ks → StairL ks i →
      Fr h₀ env.locals h (fun y => if y = x then some (.int n t) else m₀ y) → News h₀ env.locals h ((sl, W.listOf us.toArray cnt) :: (rest ++ own)) →
      wpAny (model prog w) A (execs body env) (InvPostN h₀ env.locals (SumsJ sl rest x m₀ (i + 1)) own (sl :: rest.map (·.1)) { s with heap := h, toks := tk } Q) E { s with heap := h, toks := tk })
    (done : ∀ (us : List Value) (ks : List Int) (cnt : Nat) (u : Str → Option Value) (h : Heap) (tk : Nat), us.length = ns.length + 1 → IntsAre us ks → StairL ks ns.length → Fr h₀ env.locals h (fun y => if y = x then u y else m₀ y) → News h₀ env.locals h ((sl, W.listOf us.toArray cnt) :: rest) → Q .next { s with heap := h, toks := tk }) :
    wpAny (model prog w) A (pyIter (.ref l)) (fun it s₂ => LoopAtV prog w A h₀ env x body Q E it s₂) E s := by
  refine iter_invNL (fun i m nx => SumsJ sl rest x m₀ i m nx) hh (.tail _ hl) hi F N ⟨[.int 0 t0], [0], 0, rfl, .cons 0 t0 .nil, stair_0, fun _ _ => rfl⟩ ?_ ?_
  · rintro i n t m₁ nx h tk own hn _ hoff _ ⟨us, ks, cnt, rfl, hI, hS, hm⟩ F₁ N₁
    have em : (fun y => if y = x then some (.int n t) else m₁ y) = fun y => if y = x then some (.int n t) else m₀ y := by
      funext y
      by_cases hy : y = x
      · rw [if_pos hy, if_pos hy]
      · rw [if_neg hy, if_neg hy]; exact hm y hy
    rw [em] at F₁
    refine wpAny_mono (turn us ks cnt i n t h tk own (List.getElem?_eq_some_iff.mp hn).1 (by rw [(intsAre_get hI).1, hS.1]) hoff hI hS F₁ N₁) (fun f s₂ p => ?_) fun _ _ x => x
    have up : InvEndN h₀ env.locals (SumsJ sl rest x m₀ (i + 1)) own (sl :: rest.map (·.1)) { s with heap := h, toks := tk } s₂ →
        InvEndN h₀ env.locals (fun m' nx => (l, W.listOf vs.toArray nn) ∈ nx ∧ SumsJ sl rest x m₀ (i + 1) m' nx) own (sl :: rest.map (·.1)) { s with heap := h, toks := tk } s₂ := by
      rintro ⟨h', tk', m', news', nx', e', F', N', hn', ho', ha, hJ⟩
      refine ⟨h', tk', m', news', nx', e', F', N', hn', ho', ha, ?_, hJ⟩
      obtain ⟨_, _, _, rfl, _⟩ := hJ
      exact .tail _ hl
    cases f with
    | ret v => exact p
    | brk => exact p
    | next => exact up p
    | cont => exact up p
  · rintro m₁ nx h tk _ ⟨us, ks, cnt, rfl, hI, hS, hm⟩ F₁ N₁
    have em : m₁ = fun y => if y = x then m₁ y else m₀ y := by
      funext y
      by_cases hy : y = x
      · rw [if_pos hy]
      · rw [if_neg hy]; exact hm y hy
    rw [em] at F₁
    exact done us ks cnt m₁ h tk (by rw [(intsAre_get hI).1, hS.1]) hI hS F₁ N₁
theorem stair_last {ks : List Int} {i : Nat} {x : Int} (h : StairL ks i) : ks.getD (-1 + (ks.length : Int)).toNat 0 + x.fmod 2 = ks.getD i 0 ∨ ks.getD (-1 + (ks.length : Int)).toNat 0 + x.fmod 2 = ks.getD i 0 + 1 := by
  have e : (-1 + (ks.length : Int)).toNat = i := by have := h.1; omega
  rw [e, Int.fmod_eq_emod_of_nonneg _ (by decide : (0 : Int) ≤ 2)]
  omega
theorem intsAre_snoc : ∀ {us : List Value} {ks : List Int} {v : Int} {t : PySem.Tok}, IntsAre us ks → IntsAre (us ++ [.int v t]) (ks ++ [v])
  | _, _, _, _, .nil => .cons _ _ .nil
  | _, _, _, _, .cons k t r => .cons k t (intsAre_snoc r)
theorem sums_end {h₀ h' : Heap} {L sl : Addr} {m' m₀ : Str → Option Value} {rest own : Led} {us : List Value} {ks : List Int} {cnt i tk : Nat} {v : Int} {t : PySem.Tok} {x : Str} {s₁ : Shared} (F : Fr h₀ L h' m') (N : News h₀ L h' ((sl, W.listOf (us.toArray.push (.int v t)) cnt) :: (rest ++ own)))
    (hI : IntsAre us ks) (hS : StairL ks i) (hv : v = ks.getD i 0 ∨ v = ks.getD i 0 + 1) (hm : ∀ z, z ≠ x → m' z = m₀ z) : InvEndN h₀ L (SumsJ sl rest x m₀ (i + 1)) own (sl :: rest.map (·.1)) s₁ { s₁ with heap := h', toks := tk } :=
  InvEndN.intro F N (nx := (sl, W.listOf (us ++ [Value.int v t]).toArray cnt) :: rest) ⟨_, _, _, rfl, intsAre_snoc hI, stair_push hS hv, hm⟩ rfl
    (fun p hp => by
      rcases List.mem_cons.mp hp with e | hp
      · rw [e, List.push_toArray]; exact .head _
      · exact .tail _ (List.mem_append_left _ hp))
    (fun p hp => .tail _ (List.mem_append_right _ hp))
theorem news_all {h₀ h : Heap} {L : Addr} {need news : Led} (N : News h₀ L h news) (hn : ∀ p ∈ need, p ∈ news) : News h₀ L h (need ++ news) := fun p hp => by
  rcases List.mem_append.mp hp with hp | hp
  · exact N p (hn p hp)
  · exact N p hp
end Mine

end

section
open PySem PySem.W PyProof.Rows PySem.Spec PySem.Calls
set_option Elab.async false
set_option maxRecDepth 100000
namespace Mine
local macro_rules | `(tactic| walk_at "eval Constant float") => `(tactic| (k_dflt (refine Flo.k_const Flo.half_lit ?_)))
local macro_rules | `(tactic| walk_at "binaryOp Sub float float") => `(tactic| (k_dflt ((fail_if_success (with_reducible show wpAny _ _ (binaryOp _ _ (Value.float (Flo.hf _) _)) _ _ _)); (fail_if_success (with_reducible show wpAny _ _ (binaryOp _ _ (Value.float Flo.TROP _)) _ _ _)); refine Flo.k_subL Flo.epg_lit ?_)))
local macro_rules | `(tactic| walk_at "binaryOp Sub float float") => `(tactic| (k_dflt ((fail_if_success (with_reducible show wpAny _ _ (binaryOp _ _ (Value.float (Flo.hf _) _)) _ _ _)); (fail_if_success (with_reducible show wpAny _ _ (binaryOp _ _ (Value.float Flo.TROP _)) _ _ _)); refine Flo.k_subL Flo.epp_lit ?_)))
local macro_rules | `(tactic| walk_at "binaryOp Sub int float") => `(tactic| (k_dflt ((fail_if_success (with_reducible show wpAny _ _ (binaryOp _ _ (Value.float (Flo.hf _) _)) _ _ _)); (fail_if_success (with_reducible show wpAny _ _ (binaryOp _ _ (Value.float Flo.TROP _)) _ _ _)); refine Flo.k_subL Flo.epp_lit ?_)))
local macro_rules | `(tactic| walk_at "binaryOp Sub float int") => `(tactic| (k_dflt ((fail_if_success (with_reducible show wpAny _ _ (binaryOp _ (Value.float (Flo.hf _) _) _) _ _ _)); (fail_if_success (with_reducible show wpAny _ _ (binaryOp _ (Value.float Flo.TROP _) _) _ _ _)); refine Flo.k_Lsub Flo.epg_lit ?_)))
local macro_rules | `(tactic| walk_at "binaryOp Sub float int") => `(tactic| (k_dflt ((fail_if_success (with_reducible show wpAny _ _ (binaryOp _ (Value.float (Flo.hf _) _) _) _ _ _)); (fail_if_success (with_reducible show wpAny _ _ (binaryOp _ (Value.float Flo.TROP _) _) _ _ _)); refine Flo.k_Lsub Flo.epp_lit ?_)))
local macro_rules | `(tactic| walk_at "binaryOp Mult float int") => `(tactic| (k_dflt ((fail_if_success (with_reducible show wpAny _ _ (binaryOp _ (Value.float (Flo.hf _) _) _) _ _ _)); (fail_if_success (with_reducible show wpAny _ _ (binaryOp _ (Value.float Flo.TROP _) _) _ _ _)); refine Flo.k_Lmul Flo.trop_lit ?_)))
local macro_rules | `(tactic| walk_at "binaryOp Div float float") => `(tactic| (k_dflt ((fail_if_success (with_reducible show wpAny _ _ (binaryOp _ _ (Value.float (Flo.hf _) _)) _ _ _)); (fail_if_success (with_reducible show wpAny _ _ (binaryOp _ _ (Value.float Flo.TROP _)) _ _ _)); refine Flo.k_divL Flo.trop_lit ?_)))
local macro_rules | `(tactic| walk_at "binaryOp Add int float") => `(tactic| (k_dflt ((fail_if_success (with_reducible show wpAny _ _ (binaryOp _ _ (Value.float (Flo.hf _) _)) _ _ _)); (fail_if_success (with_reducible show wpAny _ _ (binaryOp _ _ (Value.float Flo.TROP _)) _ _ _)); refine Flo.k_addL Flo.trop_lit ?_)))
local macro_rules | `(tactic| walk_at "binaryOp Add int bool") => `(tactic| (first | refine' Flo.k_addit ?_ | refine' Flo.k_addif0 ?_))
local macro_rules | `(tactic| walk_at "binaryOp Add float float") => `(tactic| ((with_reducible show wpAny _ _ (binaryOp _ (Value.float (Flo.hf _) _) (Value.float (Flo.hf _) _)) _ _ _); refine' Flo.k_addff ?_ ?a0 ?a1; (case a0 => k_dflt omega); (case a1 => k_dflt omega)))
local macro_rules | `(tactic| walk_at "binaryOp Sub float float") => `(tactic| ((with_reducible show wpAny _ _ (binaryOp _ (Value.float (Flo.hf _) _) (Value.float (Flo.hf _) _)) _ _ _); refine' Flo.k_subff ?_ ?a0 ?a1; (case a0 => k_dflt omega); (case a1 => k_dflt omega)))
local macro_rules | `(tactic| walk_at "binaryOp Add float int") => `(tactic| ((fail_if_success (with_reducible show wpAny _ _ (binaryOp _ (Value.float (Flo.hf _) _) _) _ _ _)); refine' Flo.k_addQi ?_ ?hq ?h1 ?h2 ?h3 ?h4; (case hq => with_reducible assumption); (case h1 => k_dflt decide); (case h2 => k_dflt decide); (case h3 => k_dflt omega); (case h4 => k_dflt omega); intro _ _))
local macro_rules | `(tactic| walk_at "binaryOp Add float int") => `(tactic| ((with_reducible show wpAny _ _ (binaryOp _ (Value.float (Flo.hf _) _) (Value.int _ _)) _ _ _); refine' Flo.k_addfi ?_ ?a ?b; (case a => k_dflt omega); (case b => k_dflt omega)))
local macro_rules | `(tactic| walk_at "binaryOp Add int float") => `(tactic| ((with_reducible show wpAny _ _ (binaryOp _ (Value.int _ _) (Value.float Flo.TROP _)) _ _ _); refine' Flo.k_addiX ?_ ?a0; (case a0 => k_dflt omega)))
local macro_rules | `(tactic| walk_at "binaryOp Add float int") => `(tactic| ((with_reducible show wpAny _ _ (binaryOp _ (Value.float (Float64.add _ _) _) (Value.int _ _)) _ _ _); refine' Flo.k_addXi ?_ ?a0; (case a0 => k_dflt omega)))
local macro_rules | `(tactic| walk_at "binaryOp Add int float") => `(tactic| ((with_reducible show wpAny _ _ (binaryOp _ (Value.int _ _) (Value.float (Flo.hf _) _)) _ _ _); refine' Flo.k_addif ?_ ?a0 ?a1; (case a0 => k_dflt omega); (case a1 => k_dflt omega)))
local macro_rules | `(tactic| walk_at "binaryOp Sub float int") => `(tactic| ((with_reducible show wpAny _ _ (binaryOp _ (Value.float (Flo.hf _) _) (Value.int _ _)) _ _ _); refine' Flo.k_subfi ?_ ?a0 ?a1; (case a0 => k_dflt omega); (case a1 => k_dflt omega)))
local macro_rules | `(tactic| walk_at "binaryOp Sub int float") => `(tactic| ((with_reducible show wpAny _ _ (binaryOp _ (Value.int _ _) (Value.float (Flo.hf _) _)) _ _ _); refine' Flo.k_subif ?_ ?a0 ?a1; (case a0 => k_dflt omega); (case a1 => k_dflt omega)))
local macro_rules | `(tactic| walk_at "binaryOp Mult float int") => `(tactic| ((with_reducible show wpAny _ _ (binaryOp _ (Value.float (Flo.hf _) _) (Value.int _ _)) _ _ _); refine' Flo.k_mulfi ?_ ?a0 ?a1 ?a2 ?a3; (case a0 => k_dflt omega); (case a1 => k_dflt omega); (case a2 => k_dflt decide); (case a3 => k_dflt decide)))
local macro_rules | `(tactic| walk_at "binaryOp Mult float int") => `(tactic| ((with_reducible show wpAny _ _ (binaryOp _ (Value.float Flo.TROP _) (Value.int _ _)) _ _ _); refine' Flo.k_mulT ?_ ?a0; (case a0 => k_dflt omega)))
local macro_rules | `(tactic| walk_at "binaryOp Mod float int") => `(tactic| ((with_reducible show wpAny _ _ (binaryOp _ (Value.float (Flo.hf _) _) (Value.int _ _)) _ _ _); refine' Flo.k_modfi ?_ ?a0 ?a1 ?a2 ?a3; (case a0 => k_dflt omega); (case a1 => k_dflt omega); (case a2 => k_dflt decide); (case a3 => k_dflt decide); intro _ _ _ _ _))
local macro_rules | `(tactic| walk_at "binaryOp Mod float int") => `(tactic| ((with_reducible show wpAny _ _ (binaryOp _ (Value.float (Flo.hf (2 * _)) _) (Value.int _ _)) _ _ _); refine' Flo.k_modfi2 ?_ ?a0 ?a1 ?a2; (case a0 => k_dflt omega); (case a1 => k_dflt decide); (case a2 => k_dflt decide)))
local macro_rules | `(tactic| walk_at "binaryOp Div float int") => `(tactic| ((with_reducible show wpAny _ _ (binaryOp _ (Value.float (Flo.hf _) _) (Value.int _ _)) _ _ _); refine' Flo.k_divfi ?_ ?a0 ?a1 ?a2 ?a3; (case a0 => k_dflt omega); (case a1 => k_dflt omega); (case a2 => k_dflt decide); (case a3 => k_dflt decide); intro _ _ _ _))
local macro_rules | `(tactic| walk_at "binaryOp Div float int") => `(tactic| ((with_reducible show wpAny _ _ (binaryOp _ (Value.float (Flo.hf (2 * _)) _) (Value.int _ _)) _ _ _); refine' Flo.k_divfi2 ?_ ?a0 ?a1 ?a2; (case a0 => k_dflt omega); (case a1 => k_dflt decide); (case a2 => k_dflt decide); intro _ _))
local macro_rules | `(tactic| walk_at "binaryOp Div float float") => `(tactic| ((with_reducible show wpAny _ _ (binaryOp _ (Value.float (Flo.hf _) _) (Value.float Flo.TROP _)) _ _ _); refine Flo.k_divT ?_))
local macro_rules | `(tactic| walk_at "binaryOp Div int int") => `(tactic| (refine' Flo.k_divii ?_ ?a0 ?a1 ?a2; (case a0 => k_dflt omega); (case a1 => k_dflt decide); (case a2 => k_dflt decide); intro _ _))
local macro_rules | `(tactic| walk_at "call builtin:math.floor") => `(tactic| ((with_reducible show wpAny _ _ (call _ [(Value.float (Flo.hf _) _)]) _ _ _); refine' Flo.k_floorH ?_ ?h1 ?h2; (case h1 => k_dflt omega); (case h2 => k_dflt exact rfl); intro _ _ _))
local macro_rules | `(tactic| walk_at "call builtin:math.floor") => `(tactic| ((fail_if_success (with_reducible show wpAny _ _ (call _ [(Value.float (Flo.hf _) _)]) _ _ _)); refine' Flo.k_floorQ ?hq ?_ ?h1 ?h2 ?h3; (case hq => with_reducible assumption); (case h1 => k_dflt decide); (case h2 => k_dflt decide); (case h3 => k_dflt exact rfl); intro _ _ _))
local macro_rules | `(tactic| walk_at "call builtin:math.floor") => `(tactic| ((fail_if_success (with_reducible show wpAny _ _ (call _ [(Value.float (Flo.hf _) _)]) _ _ _)); refine' Flo.k_floorFl ?hq ?_ ?h3; (case hq => with_reducible assumption); (case h3 => k_dflt exact rfl)))
local macro_rules | `(tactic| walk_at "call builtin:math.ceil") => `(tactic| ((fail_if_success (with_reducible show wpAny _ _ (call _ [(Value.float (Flo.hf _) _)]) _ _ _)); refine' Flo.k_ceilQ ?hq ?_ ?h1 ?h2 ?h3; (case hq => with_reducible assumption); (case h1 => k_dflt decide); (case h2 => k_dflt decide); (case h3 => k_dflt exact rfl); intro _ _ _))
local macro_rules | `(tactic| walk_at "call builtin:round") => `(tactic| ((fail_if_success (with_reducible show wpAny _ _ (call _ [(Value.float (Flo.hf _) _)]) _ _ _)); refine' Flo.k_round ?hq ?_ ?h3; (case hq => with_reducible assumption); (case h3 => k_dflt exact rfl)))
local macro_rules | `(tactic| walk_at "call type:int") => `(tactic| ((with_reducible show wpAny _ _ (call _ [(Value.float (Flo.hf _) _)]) _ _ _); refine' Flo.k_intH ?_ ?h1 ?h2; (case h1 => k_dflt omega); (case h2 => k_dflt omega); intro _ _))
local macro_rules | `(tactic| walk_at "compareOp Lt float int") => `(tactic| ((with_reducible show wpAny _ _ (compareOp _ (Value.float (Flo.hf _) _) (Value.int _ _)) _ _ _); refine' Flo.k_ltfi ?_ ?h1; (case h1 => k_dflt omega)))
local macro_rules | `(tactic| walk_at "compareOp LtE float int") => `(tactic| ((with_reducible show wpAny _ _ (compareOp _ (Value.float (Flo.hf _) _) (Value.int _ _)) _ _ _); refine' Flo.k_lefi ?_ ?h1; (case h1 => k_dflt omega)))
local macro_rules | `(tactic| walk_at "compareOp Gt float int") => `(tactic| ((with_reducible show wpAny _ _ (compareOp _ (Value.float (Flo.hf _) _) (Value.int _ _)) _ _ _); refine' Flo.k_gtfi ?_ ?h1; (case h1 => k_dflt omega)))
local macro_rules | `(tactic| walk_at "compareOp NotEq float float") => `(tactic| ((with_reducible show wpAny _ _ (compareOp _ (Value.float (Flo.hf _) _) (Value.float (Flo.hf _) _)) _ _ _); refine' Flo.k_neff ?_ ?h1 ?h2; (case h1 => k_dflt omega); (case h2 => k_dflt omega)))
local macro_rules | `(tactic| walk_at "compareOp Gt int float") => `(tactic| (refine' Flo.k_gtiF ?hq ?_; (case hq => with_reducible assumption)))
local macro_rules | `(tactic| walk_at "compareOp LtE int float") => `(tactic| (refine' Flo.k_leiF ?hq ?_; (case hq => with_reducible assumption)))
local macro_rules | `(tactic| walk_at "compareOp Lt float int") => `(tactic| ((fail_if_success (with_reducible show wpAny _ _ (compareOp _ (Value.float (Flo.hf _) _) _) _ _ _)); refine' Flo.k_ltFi ?hq ?_; (case hq => with_reducible assumption)))
local macro_rules | `(tactic| walk_at "eval Call") => `(tactic| (k_dflt (refine Call_ ?_)))
local macro_rules | `(tactic| walk_at "execs cons") => `(tactic| (k_here; (with_reducible refine gen_tk ?_); intro _; (with_reducible refine wpAny_execs_cons ?_); (try dsimp only)))
local macro_rules | `(tactic| walk_at "my need") => `(tactic| first | with_reducible exact need_nil | with_reducible assumption | ((repeat (with_reducible refine need_cons ?_)); with_reducible assumption))
local macro_rules | `(tactic| walk_at "my N") => `(tactic| first | k_asm | ((rename News _ _ _ _ => nE'); exact fun p hp => nE' p (by (repeat (first | with_reducible exact hp | with_reducible refine List.mem_cons_of_mem _ ?_)))))
local macro_rules | `(tactic| walk_at "my keep") => `(tactic| first | k_asm | exact news_keep (by k_asm) | exact news_keep (news_keep (by k_asm)) | exact news_keep (news_keep (news_keep (by k_asm))) | exact news_keep (news_keep (news_keep (news_keep (by k_asm)))) | exact news_keep (news_keep (news_keep (news_keep (news_keep (by k_asm))))) | exact news_keep (news_keep (news_keep (news_keep (news_keep (news_keep (by k_asm)))))) | exact news_keep (news_keep (news_keep (news_keep (news_keep (news_keep (news_keep (by k_asm))))))) | exact news_keep (news_keep (news_keep (news_keep (news_keep (news_keep (news_keep (news_keep (by k_asm)))))))) | exact news_keep (news_keep (news_keep (news_keep (news_keep (news_keep (news_keep (news_keep (news_keep (by k_asm))))))))) | exact news_keep (news_keep (news_keep (news_keep (news_keep (news_keep (news_keep (news_keep (news_keep (news_keep (by k_asm)))))))))) | exact news_keep (news_keep (news_keep (news_keep (news_keep (news_keep (news_keep (news_keep (news_keep (news_keep (news_keep (by k_asm))))))))))) | exact news_keep (news_keep (news_keep (news_keep (news_keep (news_keep (news_keep (news_keep (news_keep (news_keep (news_keep (news_keep (by k_asm)))))))))))))
local macro_rules | `(tactic| walk_at "my lt") => `(tactic| first | assumption | exact kst_ltOf (by assumption) | exact kst_ltOf (And.right (by assumption)) | exact kst_ltOf (And.right (And.right (by assumption))) | exact kst_ltOf (And.right (And.right (And.right (by assumption)))) | exact kst_ltOf (And.right (And.right (And.right (And.right (by assumption))))) | exact kst_ltOf (And.right (And.right (And.right (And.right (And.right (by assumption)))))) | exact kst_ltOf (And.right (And.right (And.right (And.right (And.right (And.right (by assumption))))))) | exact kst_ltOf (And.right (And.right (And.right (And.right (And.right (And.right (And.right (by assumption)))))))) | exact kst_ltOf (And.right (And.right (And.right (And.right (And.right (And.right (And.right (And.right (by assumption))))))))) | exact kst_ltOf (And.right (And.right (And.right (And.right (And.right (And.right (And.right (And.right (And.right (by assumption)))))))))) | exact kst_ltOf (And.right (And.right (And.right (And.right (And.right (And.right (And.right (And.right (And.right (And.right (by assumption))))))))))) | exact kst_ltOf (And.right (And.right (And.right (And.right (And.right (And.right (And.right (And.right (And.right (And.right (And.right (by assumption)))))))))))) | exact kst_ltOf (And.right (And.right (And.right (And.right (And.right (And.right (And.right (And.right (And.right (And.right (And.right (And.right (by assumption))))))))))))))
local macro_rules | `(tactic| walk_at "my need") => `(tactic| ((with_reducible refine need_one ?_); k_mem))
local macro_rules | `(tactic| walk_at "call ref") => `(tactic| (k_here; k_dflt (refine' Says.use (c_lawopening _ [(_, listObj _ _)] _ _ _ _ _ _ _ _ _ _ _ (List.mem_singleton.mpr rfl) (by assumption)) ?k1 ?k2 ?k3 ?k4 ?k5 ?k6 ?k7 ?k8 ?k9 ?_; (case k1 => k_asm); (case k2 => k_asm); (case k3 => k_asm); (case k4 => k_asm); (case k5 => k_asm); (case k6 => first | exact rfl | assumption); (case k7 => walk_at "my need"); (case k8 => ktr_room); (case k9 => ktr_units); k_whole; (intro t9 h9 tk9 F9 N9); (all_goals (try dsimp only)); (all_goals (try k_fold)))))
local macro_rules | `(tactic| walk_at "eval Name") => `(tactic| (k_here; k_dflt (refine' nameX_F ?N ?c ?m ?d ?_ ?a ?b; (case a => rfl); (case b => rfl); (case N => k_asm); (case c => rfl); (case m => k_mem); (case d => assumption); k_whole)))
/-- a function of one name, civil, whose body asks _law_opening with three cells and takes 1 off -/
abbrev lamObj (qual : Str) (ap p1 p2 p3 p4 p5 p6 p7 p8 : Pos) (a1 a2 a3 c : Addr) (pm ct : Value) : Obj :=
  kla_obj (Str.ofString "<lambda>") qual { posonlyargs := [], args := [{ arg := Str.ofString "civil", annotation := none, pos := ap }], vararg := none, kwonlyargs := [], kw_defaults := [], kwarg := none, defaults := [] }
    (.BinOp (.Call (.Name (Str.ofString "_law_opening") p1) [.Name (Str.ofString "civil") p2, .Name (Str.ofString "first") p3, .Name (Str.ofString "start") p4, .Name (Str.ofString "sums") p5] [] p6) .Sub (.Constant (.int 1) 0 p7) p8)
    { kind := .function, names := [(Str.ofString "civil", .local), (Str.ofString "first", .free), (Str.ofString "start", .free), (Str.ofString "sums", .free), (Str.ofString "_law_opening", .globalImplicit)], isGenerator := false, isCoroutine := false }
    [(Str.ofString "sums", a3), (Str.ofString "start", a2), (Str.ofString "first", a1)] pm c ct
abbrev lamNeed (qual : Str) (ap p1 p2 p3 p4 p5 p6 p7 p8 : Pos) (f a1 a2 a3 c sl : Addr) (pm ct : Value) (oc o1 o2 o3 : Obj) (us : List Value) (cnt : Nat) : Led :=
  [(f, lamObj qual ap p1 p2 p3 p4 p5 p6 p7 p8 a1 a2 a3 c pm ct), (c, oc), (sl, listObj us cnt), (a3, o3), (a2, o2), (a1, o1)]

set_option maxHeartbeats 4000000 in
theorem c_lam (w : World) (qual : Str) (ap p1 p2 p3 p4 p5 p6 p7 p8 : Pos) (f a1 a2 a3 c sl : Addr) (pm ct : Value) (oc o1 o2 o3 : Obj) (us : List Value) (cnt : Nat) (vs : Array Value) (tq : Tok) (fv sv n : Int) (t1 t2 : Tok) (ss : Int → Int) (y : Int) (t : Tok)
    (hd1 : oc.data = .fields vs) (hd2 : vs[1]? = some (.str qual tq)) (h1 : o1.data = .cell (some (.int fv t1))) (h2 : o2.data = .cell (some (.int sv t2))) (h3 : o3.data = .cell (some (.ref sl))) (hv : Stair us ss n) :
    Says w (lamNeed qual ap p1 p2 p3 p4 p5 p6 p7 p8 f a1 a2 a3 c sl pm ct oc o1 o2 o3 us cnt) f [.int y t] 4 40 (RetI (Op fv sv ss n y - 1)) := by
  unfold Says
  k_fill
  intro pg loose mean mg mb news dp un gd cn cs a ccd cl outer A₀ base h₀ L mm s Q E B F X N T hk hn9 hd9 hu9 hret
  have N2 := news_all N hn9
  clear N
  simp only [List.cons_append, List.nil_append] at N2
  refine wpAny_call ?_
  k_dflt (refine' kla_code (binds := [(Str.ofString "civil", .int y t)]) ?k1 ?k2 ?k3 ?k4 ?k5 ?kA ?kF ?kK ?k6 ?k7 ?k8 ?k9 ?kB ?_ ?c2 ?c3 ?c4 ?c5; (case kA => exact rfl); (case kF => exact rfl); (case kK => assumption); (case k1 => k_asm); (case k2 => k_asm); (case k3 => k_asm); (case k4 => k_asm); (case k5 => k_asm); (case k6 => k_mem); (case k7 => exact codeRec_news (by k_asm) (by k_mem) (by assumption) (by assumption)); (case k8 => ktr_room); (case k9 => exact rfl); (case c5 => decide); (case kB => exact locs rfl); (case c2 => exact rfl); (case c3 => exact rfl); (case c4 => exact rfl); k_whole; intro g' L' h' FG' F' N' B' X' T'; (try dsimp only); (try k_lift B'); (try k_fold))
  k_steps
  all_goals (first | exact endI hret (by k_asm) (by walk_at "my N") rfl | trace_state)
theorem e_lam (w : World) (qual : Str) (ap p1 p2 p3 p4 p5 p6 p7 p8 : Pos) (f a1 a2 a3 c sl : Addr) (pm ct : Value) (oc o1 o2 o3 : Obj) (us : List Value) (cnt : Nat) (vs : Array Value) (tq : Tok) (fv sv n : Int) (t1 t2 : Tok) (ss : Int → Int)
    (hd1 : oc.data = .fields vs) (hd2 : vs[1]? = some (.str qual tq)) (h1 : o1.data = .cell (some (.int fv t1))) (h2 : o2.data = .cell (some (.int sv t2))) (h3 : o3.data = .cell (some (.ref sl))) (hv : Stair us ss n) :
    EqFn w (lamNeed qual ap p1 p2 p3 p4 p5 p6 p7 p8 f a1 a2 a3 c sl pm ct oc o1 o2 o3 us cnt) f (fun y => Op fv sv ss n y - 1) :=
  ⟨⟨_, _, _, _, List.Mem.head _⟩, fun y t => c_lam w qual ap p1 p2 p3 p4 p5 p6 p7 p8 f a1 a2 a3 c sl pm ct oc o1 o2 o3 us cnt vs tq fv sv n t1 t2 ss y t hd1 hd2 h1 h2 h3 hv⟩
theorem lam_ok {w : World} {h₀ h : Heap} {L : Addr} {qual : Str} {ap p1 p2 p3 p4 p5 p6 p7 p8 : Pos} {f a1 a2 a3 c sl : Addr} {pm ct : Value} {oc o1 o2 o3 : Obj} {us : List Value} {ks : List Int} {cnt n : Nat} {vs : Array Value} {tq t1 t2 : Tok} {far moved : Int} {rest : Led}
    (_N : News h₀ L h ((f, lamObj qual ap p1 p2 p3 p4 p5 p6 p7 p8 a1 a2 a3 c pm ct) :: (c, oc) :: rest)) (hm1 : (a1, o1) ∈ rest) (hm2 : (a2, o2) ∈ rest) (hm3 : (a3, o3) ∈ rest)
    (hd1 : oc.data = .fields vs) (hd2 : vs[1]? = some (.str qual tq)) (h1 : o1.data = .cell (some (.int (622 + far) t1))) (h2 : o2.data = .cell (some (.int (1948321 + 365 * far + (8 * far).fdiv 33 + moved) t2))) (h3 : o3.data = .cell (some (.ref sl)))
    (hml : (sl, listObj us cnt) ∈ rest) (hI : IntsAre us ks) (hS : StairL ks n) (hn : n ≤ 12) (hf : FarOk far) (hmv : MovedOk moved) :
    ∃ need Ec, EqFn w need f Ec ∧ Opens Ec ∧ ∀ p ∈ need, p ∈ (f, lamObj qual ap p1 p2 p3 p4 p5 p6 p7 p8 a1 a2 a3 c pm ct) :: (c, oc) :: rest := by
  refine ⟨_, _, e_lam w qual ap p1 p2 p3 p4 p5 p6 p7 p8 f a1 a2 a3 c sl pm ct oc o1 o2 o3 us cnt vs tq (622 + far) (1948321 + 365 * far + (8 * far).fdiv 33 + moved) n t1 t2 _ hd1 hd2 h1 h2 h3 (stair_of hI hS hn), op_opens (by omega) (by omega) (stair_steps hS) rfl hmv.1 hmv.2 rfl, ?_⟩
  intro p hp
  simp only [List.mem_cons, List.not_mem_nil, or_false] at hp
  rcases hp with rfl | rfl | rfl | rfl | rfl | rfl
  · exact .head _
  · exact .tail _ (.head _)
  · exact .tail _ (.tail _ hml)
  · exact .tail _ (.tail _ hm3)
  · exact .tail _ (.tail _ hm2)
  · exact .tail _ (.tail _ hm1)
theorem far_lo {x : Int} (h : FarOk x) : -40000 ≤ 622 + x - 622 := by unfold FarOk at h; omega
theorem far_hi {x : Int} (h : FarOk x) : 622 + x - 622 ≤ 40000 := by unfold FarOk at h; omega
theorem take_le (l : List Int) : (l.take 12).length ≤ 12 := by rw [List.length_take]; omega
theorem day_ok {Ec : Int → Int} (H : Opens Ec) {f x y : Int} {len : Nat} (hl : len ≤ 12) : Ec (f - 3) < Ec (f + (y.fmod ((len : Int) + 5) - 2)) + 1 + x.fmod 366 ∧ Ec (f + (y.fmod ((len : Int) + 5) - 2)) + 1 + x.fmod 366 ≤ Ec (f + 16) := by
  rw [Int.fmod_eq_emod_of_nonneg y (by omega : (0 : Int) ≤ (len : Int) + 5), Int.fmod_eq_emod_of_nonneg x (by decide : (0 : Int) ≤ 366)]
  have a1 := Int.emod_nonneg y (by omega : (len : Int) + 5 ≠ 0)
  have a2 := Int.emod_lt_of_pos y (by omega : 0 < (len : Int) + 5)
  generalize y % ((len : Int) + 5) = z at *
  have m1 := H.mono (a := f - 3) (z + 1).toNat
  have m2 := H.mono (a := f + (z - 2)) (16 - z).toNat
  have l1 := H.lo (f + (z - 2) + ((16 - z).toNat : Int))
  rw [show f - 3 + ((z + 1).toNat : Int) = f + (z - 2) by omega] at m1
  rw [show f + (z - 2) + ((16 - z).toNat : Int) = f + 14 by omega] at m2 l1
  have l2 := H.lo (f + 15)
  rw [show f + 14 + 1 = f + 15 by omega] at l1
  rw [show f + 15 + 1 = f + 16 by omega] at l2
  omega
end Mine

end

section
open PySem PySem.W PyProof.Rows PySem.Spec PySem.Calls
set_option Elab.async false
set_option maxRecDepth 100000
namespace Mine
local macro_rules | `(tactic| walk_at "eval Constant float") => `(tactic| (k_dflt (refine Flo.k_const Flo.half_lit ?_)))
local macro_rules | `(tactic| walk_at "binaryOp Sub float float") => `(tactic| (k_dflt ((fail_if_success (with_reducible show wpAny _ _ (binaryOp _ _ (Value.float (Flo.hf _) _)) _ _ _)); (fail_if_success (with_reducible show wpAny _ _ (binaryOp _ _ (Value.float Flo.TROP _)) _ _ _)); refine Flo.k_subL Flo.epg_lit ?_)))
local macro_rules | `(tactic| walk_at "binaryOp Sub float float") => `(tactic| (k_dflt ((fail_if_success (with_reducible show wpAny _ _ (binaryOp _ _ (Value.float (Flo.hf _) _)) _ _ _)); (fail_if_success (with_reducible show wpAny _ _ (binaryOp _ _ (Value.float Flo.TROP _)) _ _ _)); refine Flo.k_subL Flo.epp_lit ?_)))
local macro_rules | `(tactic| walk_at "binaryOp Sub int float") => `(tactic| (k_dflt ((fail_if_success (with_reducible show wpAny _ _ (binaryOp _ _ (Value.float (Flo.hf _) _)) _ _ _)); (fail_if_success (with_reducible show wpAny _ _ (binaryOp _ _ (Value.float Flo.TROP _)) _ _ _)); refine Flo.k_subL Flo.epp_lit ?_)))
local macro_rules | `(tactic| walk_at "binaryOp Sub float int") => `(tactic| (k_dflt ((fail_if_success (with_reducible show wpAny _ _ (binaryOp _ (Value.float (Flo.hf _) _) _) _ _ _)); (fail_if_success (with_reducible show wpAny _ _ (binaryOp _ (Value.float Flo.TROP _) _) _ _ _)); refine Flo.k_Lsub Flo.epg_lit ?_)))
local macro_rules | `(tactic| walk_at "binaryOp Sub float int") => `(tactic| (k_dflt ((fail_if_success (with_reducible show wpAny _ _ (binaryOp _ (Value.float (Flo.hf _) _) _) _ _ _)); (fail_if_success (with_reducible show wpAny _ _ (binaryOp _ (Value.float Flo.TROP _) _) _ _ _)); refine Flo.k_Lsub Flo.epp_lit ?_)))
local macro_rules | `(tactic| walk_at "binaryOp Mult float int") => `(tactic| (k_dflt ((fail_if_success (with_reducible show wpAny _ _ (binaryOp _ (Value.float (Flo.hf _) _) _) _ _ _)); (fail_if_success (with_reducible show wpAny _ _ (binaryOp _ (Value.float Flo.TROP _) _) _ _ _)); refine Flo.k_Lmul Flo.trop_lit ?_)))
local macro_rules | `(tactic| walk_at "binaryOp Div float float") => `(tactic| (k_dflt ((fail_if_success (with_reducible show wpAny _ _ (binaryOp _ _ (Value.float (Flo.hf _) _)) _ _ _)); (fail_if_success (with_reducible show wpAny _ _ (binaryOp _ _ (Value.float Flo.TROP _)) _ _ _)); refine Flo.k_divL Flo.trop_lit ?_)))
local macro_rules | `(tactic| walk_at "binaryOp Add int float") => `(tactic| (k_dflt ((fail_if_success (with_reducible show wpAny _ _ (binaryOp _ _ (Value.float (Flo.hf _) _)) _ _ _)); (fail_if_success (with_reducible show wpAny _ _ (binaryOp _ _ (Value.float Flo.TROP _)) _ _ _)); refine Flo.k_addL Flo.trop_lit ?_)))
local macro_rules | `(tactic| walk_at "binaryOp Add int bool") => `(tactic| (first | refine' Flo.k_addit ?_ | refine' Flo.k_addif0 ?_))
local macro_rules | `(tactic| walk_at "binaryOp Add float float") => `(tactic| ((with_reducible show wpAny _ _ (binaryOp _ (Value.float (Flo.hf _) _) (Value.float (Flo.hf _) _)) _ _ _); refine' Flo.k_addff ?_ ?a0 ?a1; (case a0 => k_dflt omega); (case a1 => k_dflt omega)))
local macro_rules | `(tactic| walk_at "binaryOp Sub float float") => `(tactic| ((with_reducible show wpAny _ _ (binaryOp _ (Value.float (Flo.hf _) _) (Value.float (Flo.hf _) _)) _ _ _); refine' Flo.k_subff ?_ ?a0 ?a1; (case a0 => k_dflt omega); (case a1 => k_dflt omega)))
local macro_rules | `(tactic| walk_at "binaryOp Add float int") => `(tactic| ((fail_if_success (with_reducible show wpAny _ _ (binaryOp _ (Value.float (Flo.hf _) _) _) _ _ _)); refine' Flo.k_addQi ?_ ?hq ?h1 ?h2 ?h3 ?h4; (case hq => with_reducible assumption); (case h1 => k_dflt decide); (case h2 => k_dflt decide); (case h3 => k_dflt omega); (case h4 => k_dflt omega); intro _ _))
local macro_rules | `(tactic| walk_at "binaryOp Add float int") => `(tactic| ((with_reducible show wpAny _ _ (binaryOp _ (Value.float (Flo.hf _) _) (Value.int _ _)) _ _ _); refine' Flo.k_addfi ?_ ?a ?b; (case a => k_dflt omega); (case b => k_dflt omega)))
local macro_rules | `(tactic| walk_at "binaryOp Add int float") => `(tactic| ((with_reducible show wpAny _ _ (binaryOp _ (Value.int _ _) (Value.float Flo.TROP _)) _ _ _); refine' Flo.k_addiX ?_ ?a0; (case a0 => k_dflt omega)))
local macro_rules | `(tactic| walk_at "binaryOp Add float int") => `(tactic| ((with_reducible show wpAny _ _ (binaryOp _ (Value.float (Float64.add _ _) _) (Value.int _ _)) _ _ _); refine' Flo.k_addXi ?_ ?a0; (case a0 => k_dflt omega)))
local macro_rules | `(tactic| walk_at "binaryOp Add int float") => `(tactic| ((with_reducible show wpAny _ _ (binaryOp _ (Value.int _ _) (Value.float (Flo.hf _) _)) _ _ _); refine' Flo.k_addif ?_ ?a0 ?a1; (case a0 => k_dflt omega); (case a1 => k_dflt omega)))
local macro_rules | `(tactic| walk_at "binaryOp Sub float int") => `(tactic| ((with_reducible show wpAny _ _ (binaryOp _ (Value.float (Flo.hf _) _) (Value.int _ _)) _ _ _); refine' Flo.k_subfi ?_ ?a0 ?a1; (case a0 => k_dflt omega); (case a1 => k_dflt omega)))
local macro_rules | `(tactic| walk_at "binaryOp Sub int float") => `(tactic| ((with_reducible show wpAny _ _ (binaryOp _ (Value.int _ _) (Value.float (Flo.hf _) _)) _ _ _); refine' Flo.k_subif ?_ ?a0 ?a1; (case a0 => k_dflt omega); (case a1 => k_dflt omega)))
local macro_rules | `(tactic| walk_at "binaryOp Mult float int") => `(tactic| ((with_reducible show wpAny _ _ (binaryOp _ (Value.float (Flo.hf _) _) (Value.int _ _)) _ _ _); refine' Flo.k_mulfi ?_ ?a0 ?a1 ?a2 ?a3; (case a0 => k_dflt omega); (case a1 => k_dflt omega); (case a2 => k_dflt decide); (case a3 => k_dflt decide)))
local macro_rules | `(tactic| walk_at "binaryOp Mult float int") => `(tactic| ((with_reducible show wpAny _ _ (binaryOp _ (Value.float Flo.TROP _) (Value.int _ _)) _ _ _); refine' Flo.k_mulT ?_ ?a0; (case a0 => k_dflt omega)))
local macro_rules | `(tactic| walk_at "binaryOp Mod float int") => `(tactic| ((with_reducible show wpAny _ _ (binaryOp _ (Value.float (Flo.hf _) _) (Value.int _ _)) _ _ _); refine' Flo.k_modfi ?_ ?a0 ?a1 ?a2 ?a3; (case a0 => k_dflt omega); (case a1 => k_dflt omega); (case a2 => k_dflt decide); (case a3 => k_dflt decide); intro _ _ _ _ _))
local macro_rules | `(tactic| walk_at "binaryOp Mod float int") => `(tactic| ((with_reducible show wpAny _ _ (binaryOp _ (Value.float (Flo.hf (2 * _)) _) (Value.int _ _)) _ _ _); refine' Flo.k_modfi2 ?_ ?a0 ?a1 ?a2; (case a0 => k_dflt omega); (case a1 => k_dflt decide); (case a2 => k_dflt decide)))
local macro_rules | `(tactic| walk_at "binaryOp Div float int") => `(tactic| ((with_reducible show wpAny _ _ (binaryOp _ (Value.float (Flo.hf _) _) (Value.int _ _)) _ _ _); refine' Flo.k_divfi ?_ ?a0 ?a1 ?a2 ?a3; (case a0 => k_dflt omega); (case a1 => k_dflt omega); (case a2 => k_dflt decide); (case a3 => k_dflt decide); intro _ _ _ _))
local macro_rules | `(tactic| walk_at "binaryOp Div float int") => `(tactic| ((with_reducible show wpAny _ _ (binaryOp _ (Value.float (Flo.hf (2 * _)) _) (Value.int _ _)) _ _ _); refine' Flo.k_divfi2 ?_ ?a0 ?a1 ?a2; (case a0 => k_dflt omega); (case a1 => k_dflt decide); (case a2 => k_dflt decide); intro _ _))
local macro_rules | `(tactic| walk_at "binaryOp Div float float") => `(tactic| ((with_reducible show wpAny _ _ (binaryOp _ (Value.float (Flo.hf _) _) (Value.float Flo.TROP _)) _ _ _); refine Flo.k_divT ?_))
local macro_rules | `(tactic| walk_at "binaryOp Div int int") => `(tactic| (refine' Flo.k_divii ?_ ?a0 ?a1 ?a2; (case a0 => k_dflt omega); (case a1 => k_dflt decide); (case a2 => k_dflt decide); intro _ _))
local macro_rules | `(tactic| walk_at "call builtin:math.floor") => `(tactic| ((with_reducible show wpAny _ _ (call _ [(Value.float (Flo.hf _) _)]) _ _ _); refine' Flo.k_floorH ?_ ?h1 ?h2; (case h1 => k_dflt omega); (case h2 => k_dflt exact rfl); intro _ _ _))
local macro_rules | `(tactic| walk_at "call builtin:math.floor") => `(tactic| ((fail_if_success (with_reducible show wpAny _ _ (call _ [(Value.float (Flo.hf _) _)]) _ _ _)); refine' Flo.k_floorQ ?hq ?_ ?h1 ?h2 ?h3; (case hq => with_reducible assumption); (case h1 => k_dflt decide); (case h2 => k_dflt decide); (case h3 => k_dflt exact rfl); intro _ _ _))
local macro_rules | `(tactic| walk_at "call builtin:math.floor") => `(tactic| ((fail_if_success (with_reducible show wpAny _ _ (call _ [(Value.float (Flo.hf _) _)]) _ _ _)); refine' Flo.k_floorFl ?hq ?_ ?h3; (case hq => with_reducible assumption); (case h3 => k_dflt exact rfl)))
local macro_rules | `(tactic| walk_at "call builtin:math.ceil") => `(tactic| ((fail_if_success (with_reducible show wpAny _ _ (call _ [(Value.float (Flo.hf _) _)]) _ _ _)); refine' Flo.k_ceilQ ?hq ?_ ?h1 ?h2 ?h3; (case hq => with_reducible assumption); (case h1 => k_dflt decide); (case h2 => k_dflt decide); (case h3 => k_dflt exact rfl); intro _ _ _))
local macro_rules | `(tactic| walk_at "call builtin:round") => `(tactic| ((fail_if_success (with_reducible show wpAny _ _ (call _ [(Value.float (Flo.hf _) _)]) _ _ _)); refine' Flo.k_round ?hq ?_ ?h3; (case hq => with_reducible assumption); (case h3 => k_dflt exact rfl)))
local macro_rules | `(tactic| walk_at "call type:int") => `(tactic| ((with_reducible show wpAny _ _ (call _ [(Value.float (Flo.hf _) _)]) _ _ _); refine' Flo.k_intH ?_ ?h1 ?h2; (case h1 => k_dflt omega); (case h2 => k_dflt omega); intro _ _))
local macro_rules | `(tactic| walk_at "compareOp Lt float int") => `(tactic| ((with_reducible show wpAny _ _ (compareOp _ (Value.float (Flo.hf _) _) (Value.int _ _)) _ _ _); refine' Flo.k_ltfi ?_ ?h1; (case h1 => k_dflt omega)))
local macro_rules | `(tactic| walk_at "compareOp LtE float int") => `(tactic| ((with_reducible show wpAny _ _ (compareOp _ (Value.float (Flo.hf _) _) (Value.int _ _)) _ _ _); refine' Flo.k_lefi ?_ ?h1; (case h1 => k_dflt omega)))
local macro_rules | `(tactic| walk_at "compareOp Gt float int") => `(tactic| ((with_reducible show wpAny _ _ (compareOp _ (Value.float (Flo.hf _) _) (Value.int _ _)) _ _ _); refine' Flo.k_gtfi ?_ ?h1; (case h1 => k_dflt omega)))
local macro_rules | `(tactic| walk_at "compareOp NotEq float float") => `(tactic| ((with_reducible show wpAny _ _ (compareOp _ (Value.float (Flo.hf _) _) (Value.float (Flo.hf _) _)) _ _ _); refine' Flo.k_neff ?_ ?h1 ?h2; (case h1 => k_dflt omega); (case h2 => k_dflt omega)))
local macro_rules | `(tactic| walk_at "compareOp Gt int float") => `(tactic| (refine' Flo.k_gtiF ?hq ?_; (case hq => with_reducible assumption)))
local macro_rules | `(tactic| walk_at "compareOp LtE int float") => `(tactic| (refine' Flo.k_leiF ?hq ?_; (case hq => with_reducible assumption)))
local macro_rules | `(tactic| walk_at "compareOp Lt float int") => `(tactic| ((fail_if_success (with_reducible show wpAny _ _ (compareOp _ (Value.float (Flo.hf _) _) _) _ _ _)); refine' Flo.k_ltFi ?hq ?_; (case hq => with_reducible assumption)))
local macro_rules | `(tactic| walk_at "eval Call") => `(tactic| (k_dflt (refine Call_ ?_)))
local macro_rules | `(tactic| walk_at "execs cons") => `(tactic| (k_here; (with_reducible refine gen_tk ?_); intro _; (with_reducible refine wpAny_execs_cons ?_); (try dsimp only)))
local macro_rules | `(tactic| walk_at "my need") => `(tactic| first | with_reducible exact need_nil | with_reducible assumption | ((repeat (with_reducible refine need_cons ?_)); with_reducible assumption))
local macro_rules | `(tactic| walk_at "my N") => `(tactic| first | k_asm | ((rename News _ _ _ _ => nE'); exact fun p hp => nE' p (by (repeat (first | with_reducible exact hp | with_reducible refine List.mem_cons_of_mem _ ?_)))))
local macro_rules | `(tactic| walk_at "my keep") => `(tactic| first | k_asm | exact news_keep (by k_asm) | exact news_keep (news_keep (by k_asm)) | exact news_keep (news_keep (news_keep (by k_asm))) | exact news_keep (news_keep (news_keep (news_keep (by k_asm)))) | exact news_keep (news_keep (news_keep (news_keep (news_keep (by k_asm))))) | exact news_keep (news_keep (news_keep (news_keep (news_keep (news_keep (by k_asm)))))) | exact news_keep (news_keep (news_keep (news_keep (news_keep (news_keep (news_keep (by k_asm))))))) | exact news_keep (news_keep (news_keep (news_keep (news_keep (news_keep (news_keep (news_keep (by k_asm)))))))) | exact news_keep (news_keep (news_keep (news_keep (news_keep (news_keep (news_keep (news_keep (news_keep (by k_asm))))))))) | exact news_keep (news_keep (news_keep (news_keep (news_keep (news_keep (news_keep (news_keep (news_keep (news_keep (by k_asm)))))))))) | exact news_keep (news_keep (news_keep (news_keep (news_keep (news_keep (news_keep (news_keep (news_keep (news_keep (news_keep (by k_asm))))))))))) | exact news_keep (news_keep (news_keep (news_keep (news_keep (news_keep (news_keep (news_keep (news_keep (news_keep (news_keep (news_keep (by k_asm)))))))))))))
local macro_rules | `(tactic| walk_at "my lt") => `(tactic| first | assumption | exact kst_ltOf (by assumption) | exact kst_ltOf (And.right (by assumption)) | exact kst_ltOf (And.right (And.right (by assumption))) | exact kst_ltOf (And.right (And.right (And.right (by assumption)))) | exact kst_ltOf (And.right (And.right (And.right (And.right (by assumption))))) | exact kst_ltOf (And.right (And.right (And.right (And.right (And.right (by assumption)))))) | exact kst_ltOf (And.right (And.right (And.right (And.right (And.right (And.right (by assumption))))))) | exact kst_ltOf (And.right (And.right (And.right (And.right (And.right (And.right (And.right (by assumption)))))))) | exact kst_ltOf (And.right (And.right (And.right (And.right (And.right (And.right (And.right (And.right (by assumption))))))))) | exact kst_ltOf (And.right (And.right (And.right (And.right (And.right (And.right (And.right (And.right (And.right (by assumption)))))))))) | exact kst_ltOf (And.right (And.right (And.right (And.right (And.right (And.right (And.right (And.right (And.right (And.right (by assumption))))))))))) | exact kst_ltOf (And.right (And.right (And.right (And.right (And.right (And.right (And.right (And.right (And.right (And.right (And.right (by assumption)))))))))))) | exact kst_ltOf (And.right (And.right (And.right (And.right (And.right (And.right (And.right (And.right (And.right (And.right (And.right (And.right (by assumption))))))))))))))
local macro_rules | `(tactic| walk_at "my need") => `(tactic| ((with_reducible refine need_one ?_); k_mem))
local macro_rules | `(tactic| walk_at "CutE") => `(tactic| (k_dflt (refine' cutE_end ?F ?N ?n ?P; (case F => k_asm); (case N => k_asm); (case n => first | exact fun _ h => h | assumption); (case P => first | exact any_ok | exact far_ok | exact moved_ok | exact far_0 | exact moved_0))))
local macro_rules | `(tactic| walk_at "eval IfExp") => `(tactic| (k_here; k_dflt ((refine' cutE (by assumption) (by k_asm) (by k_asm) ?_ ?_) <;> (first | ((with_reducible show wpAny _ _ _ _ _ _); (repeat ((rename CutEMark _ => z9); clear z9))) | ((rename CutEMark _ => z9); (clear z9); (intro Y9 t9 h9 tk9 hP9 F9 N9))))))
local macro_rules | `(tactic| walk_at "eval IfExp") => `(tactic| (k_here; (have z8 : LamMade := by assumption); (fail_if_success (have z9 : CutEIn := by assumption)); k_dflt ((refine' cutE (P := AnyOk) ⟨trivial⟩ (by k_asm) (by k_asm) ?_ ?_) <;> (first | ((with_reducible show wpAny _ _ _ _ _ _); (have z9 : CutEIn := ⟨trivial⟩)) | (intro Y9 t9 h9 tk9 hP9 F9 N9)))))
local macro_rules | `(tactic| walk_at "exec For Name Name cons nil") => `(tactic| (k_here; (rename Fr _ _ _ _ => lF'); (with_unfolding_all refine' For_invVF lF' ?k1 ?k2 ?_; (case k1 => exact rfl); (case k2 => exact rfl); k_whole)))
local macro_rules | `(tactic| walk_at "pyIter ref") => `(tactic| (k_here; k_dflt (refine' loop_sums ?hh7 ?hl7 ?hi7 ?F7 ?N7 ?a7 ?b7; (case hh7 => rfl); (case F7 => k_asm); (case N7 => k_asm); (case hi7 => assumption); (case hl7 => k_mem); (case' a7 => (intro us9 ks9 cnt9 i9 n9 t9 h9 tk9 own9 hi9 hlen9 hoff9 hI9 hS9 F9 N9; (try dsimp only))); (case' b7 => (intro us9 ks9 cnt9 u9 h9 tk9 hlen9 hI9 hS9 F9 N9; (try dsimp only))))))
local macro_rules | `(tactic| walk_at "InvEndN") => `(tactic| (k_dflt (refine' sums_end ?F8 ?N8 (by assumption) (by assumption) (stair_last (by assumption)) ?m8; (case F8 => k_asm); (case N8 => k_asm); (case m8 => exact fun z hz => if_neg hz))))
local macro_rules | `(tactic| walk_at "eval Lambda") => `(tactic| (k_here; kn_here; k_dflt (refine' kla_eval ?d0 ?_; (case d0 => exact rfl)); (k_dflt (refine' kla_nest ?F ?N ?T ?C ?cd ?U ?t ?n ?cl ?_; (case F => k_asm); (case N => k_asm); (case T => k_asm); (case cd => exact rfl); (case C => kn_code); (case U => k_updF); (case t => kn_triples); (case n => kn_among); (case cl => exact rfl); k_whole)); (intro f' c' oc' vs' t' ct' h' tk' F' N' d1' d2' l1 l2); (try dsimp only at N'); (k_dflt (obtain ⟨need9, Ec9, hE9, hO9, hN9⟩ := lam_ok N' (by k_mem) (by k_mem) (by k_mem) (by assumption) (by assumption) (by assumption) (by assumption) (by assumption) (by k_mem) (by assumption) (by assumption) (take_le _) (by assumption) (by assumption))); (try k_lt l1); (try k_lt2 l2); (have z8 : LamMade := ⟨trivial⟩)))
local macro_rules | `(tactic| walk_at "my need") => `(tactic| first | assumption | ((with_reducible refine need_cons ?_); walk_at "my need"))
local macro_rules | `(tactic| walk_at "callWith ref") => `(tactic| (k_here; k_dflt (refine' callWith_F ?k1 ?_; (case k1 => refine' EqFn.at ?e ?N ?n; (case e => assumption); (case N => k_asm); (case n => walk_at "my need")); k_whole)))
local macro_rules | `(tactic| walk_at "And") => `(tactic| ((with_reducible show FnAt _ _ ∧ _); k_dflt (refine' ⟨?k1, ?_⟩; (case k1 => refine' EqFn.at ?e ?N ?n; (case e => assumption); (case N => k_asm); (case n => walk_at "my need"))); (try dsimp only [List.nil_append, List.cons_append])))
local macro_rules | `(tactic| walk_at "call ref") => `(tactic| (k_here; k_dflt (refine' Says.use (EqFn.use (by assumption) _ _) ?k1 ?k2 ?k3 ?k4 ?k5 ?k6 ?k7 ?k8 ?k9 ?_; (case k1 => k_asm); (case k2 => k_asm); (case k3 => k_asm); (case k4 => k_asm); (case k5 => k_asm); (case k6 => first | exact rfl | assumption); (case k7 => walk_at "my need"); (case k8 => ktr_room); (case k9 => ktr_units); k_whole; (intro t9 h9 tk9 F9 N9); (all_goals (try dsimp only)); (all_goals (try k_fold)))))
local macro_rules | `(tactic| walk_at "my side") => `(tactic| first | exact far_lo (by assumption) | exact far_hi (by assumption) | exact (day_ok (by assumption) (take_le _)).1 | exact (day_ok (by assumption) (take_le _)).2)
local macro_rules | `(tactic| walk_at "call ref") => `(tactic| (k_here; k_dflt (refine' Says.use (c_lawholds _ _ _ _ _ _ _ _ (by assumption) (by assumption) ?x1 ?x2 ?x3 ?x4) ?k1 ?k2 ?k3 ?k4 ?k5 ?k6 ?k7 ?k8 ?k9 ?_; (case k1 => k_asm); (case k2 => k_asm); (case k3 => k_asm); (case k4 => k_asm); (case k5 => k_asm); (case k6 => first | exact rfl | assumption); (case k7 => walk_at "my need"); (case x1 => walk_at "my side"); (case x2 => walk_at "my side"); (case x3 => walk_at "my side"); (case x4 => walk_at "my side"); (case k8 => ktr_room); (case k9 => ktr_units); k_whole; (intro h9 tk9 F9 N9); (all_goals (try dsimp only)); (all_goals (try k_fold)))))
set_option maxHeartbeats 4000000 in
theorem tl : PySem.Challenge.rw_ad5014_01.Holds := by
  exact hd (by
    k_go0
    (all_goals try k_fold)
    have c5 : CutEMark MovedOk   := ⟨trivial⟩
    have c6 : CutEMark FarOk   := ⟨trivial⟩
    have hlen9 : ∀ l : List Int, (l.take 12).length ≤ 12 := fun l => by rw [List.length_take]; omega
    k_steps)
end Mine

end

theorem PySem.Challenge.cw_ad5014_01_holds : PySem.Challenge.rw_ad5014_01.Holds := by
  exact Mine.tl
