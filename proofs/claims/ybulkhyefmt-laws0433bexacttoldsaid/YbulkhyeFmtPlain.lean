/- PLAIN: numerals of twenty signs, and what strconv.ParseInt reads in them. -/
import Derived.Stop.FmtTextWidths
import Derived.Lib.ParseIntB
import Derived.Lib.ItoaNum
import Derived.Lib.ItoaMem
namespace Go.Proofs.YbulkhyeFmt
open Go.Lib

/-- u's N lowest decimal digits, the highest first -/
def dgs (u N : Nat) : List UInt8 := (List.range N).map fun t => dg u (N - 1 - t)
theorem dgs_length (u N : Nat) : (dgs u N).length = N := by simp [dgs]
theorem dgs_at (u N t : Nat) (h : t < N) : (dgs u N)[t]? = some (dg u (N - 1 - t)) := by simp [dgs, h]
theorem dgs_snoc (u N : Nat) : dgs u (N + 1) = dgs (u / 10) N ++ [dg u 0] := by
  unfold dgs
  rw [List.range_succ, List.map_append]
  congr 1
  · refine List.map_congr_left fun t ht => ?_
    have ht' : t < N := List.mem_range.1 ht
    rw [show N + 1 - 1 - t = (N - 1 - t) + 1 by omega, dg_succ]
  · simp
theorem dgs_cons (u N : Nat) : dgs u (N + 1) = dg u N :: dgs u N := by
  apply List.ext_getElem?
  intro t
  cases t with
  | zero => rw [dgs_at _ _ _ (by omega)]; simp
  | succ t =>
    rw [List.getElem?_cons_succ]
    by_cases h : t < N
    · rw [dgs_at _ _ _ (by omega), dgs_at _ _ _ h, show N + 1 - 1 - (t + 1) = N - 1 - t by omega]
    · rw [List.getElem?_eq_none (by rw [dgs_length]; omega), List.getElem?_eq_none (by rw [dgs_length]; omega)]
theorem dg_zero {u j : Nat} (h : u < 10 ^ j) : dg u j = 48 := by simp [dg, Nat.div_eq_of_lt h]
theorem dg_val (u j : Nat) : (dg u j).toNat = 48 + u / 10 ^ j % 10 := by
  unfold dg
  have := Nat.mod_lt (u / 10 ^ j) (show 0 < 10 by decide)
  rw [UInt8.toNat_ofNat', Nat.mod_eq_of_lt (by omega)]

theorem nDigits_le {u N : Nat} (hN : 0 < N) (h : u < 10 ^ N) : nDigits u ≤ N := by
  rcases Nat.lt_or_ge N (nDigits u) with h' | h'
  · exfalso
    have hu : 10 ≤ u := by
      rcases Nat.lt_or_ge u 10 with h1 | h1
      · rw [nDigits_small h1] at h'; omega
      · exact h1
    have : ∀ (k u : Nat), nDigits u = k + 1 → 10 ≤ u ∨ k = 0 → 10 ^ k ≤ u ∨ k = 0 := by
      intro k
      induction k with
      | zero => intro u _ _; exact .inr rfl
      | succ k ih =>
        intro u hk _
        have hb : ¬ u < 10 := fun h1 => by rw [nDigits_small h1] at hk; omega
        rw [nDigits_big hb] at hk
        by_cases h1 : u / 10 < 10
        · rw [nDigits_small h1] at hk
          left
          obtain rfl : k = 0 := by omega
          omega
        · rcases ih (u / 10) (by omega) (.inl (by omega)) with h2 | h2
          · left; rw [Nat.pow_succ]; omega
          · subst h2; rw [nDigits_big h1] at hk
            have := nDigits_pos (u / 10 / 10); omega
    have hk := this (nDigits u - 1) u (by have := nDigits_pos u; omega) (.inl hu)
    rcases hk with hk | hk
    · have := Nat.pow_le_pow_right (show 0 < 10 by decide) (show N ≤ nDigits u - 1 by omega)
      omega
    · omega
  · exact h'

theorem pad_dgs {u N : Nat} (hN : 0 < N) (h : u < 10 ^ N) : List.replicate (N - (decDigits u).length) 48 ++ decDigits u = dgs u N := by
  have hle := nDigits_le hN h
  have hp := nDigits_pos u
  rw [decDigits_length]
  apply List.ext_getElem?
  intro t
  by_cases ht : t < N
  · rw [dgs_at _ _ _ ht]
    by_cases h1 : t < N - nDigits u
    · rw [List.getElem?_append_left (by simpa using h1), List.getElem?_replicate, if_pos h1]
      rw [dg_zero (Nat.lt_of_lt_of_le (lt_pow_nDigits u) (Nat.pow_le_pow_right (by decide) (by omega)))]
    · rw [List.getElem?_append_right (by simp; omega), List.length_replicate, decDigits_eq]
      rw [List.getElem?_map, List.getElem?_range (by omega)]
      simp only [Option.map_some]
      congr 2
      omega
  · rw [List.getElem?_eq_none (by simp [decDigits_length]; omega), List.getElem?_eq_none (by rw [dgs_length]; omega)]

/-! ### ParseInt -/
theorem parseUintM_snoc (M : Nat) (c : UInt8) (hc : 48 ≤ c.toNat ∧ c.toNat ≤ 57) : ∀ (l : List UInt8) (acc a : Nat), parseUintM M acc l = .ok a → a < 1844674407370955162 → a * 10 + (c.toNat - 48) ≤ M → parseUintM M acc (l ++ [c]) = .ok (a * 10 + (c.toNat - 48))
  | [], acc, a, h, h1, h2 => by
    simp only [parseUintM] at h
    injection h with h
    subst h
    simp only [List.nil_append, parseUintM, if_pos hc, if_neg (show ¬ 1844674407370955162 ≤ acc by omega), if_neg (show ¬ M < acc * 10 + (c.toNat - 48) by omega)]
  | d :: r, acc, a, h, h1, h2 => by
    simp only [List.cons_append, parseUintM] at h ⊢
    by_cases e1 : 48 ≤ d.toNat ∧ d.toNat ≤ 57
    · rw [if_pos e1] at h ⊢
      by_cases e2 : 1844674407370955162 ≤ acc
      · rw [if_pos e2] at h; cases h
      · rw [if_neg e2] at h ⊢
        by_cases e3 : M < acc * 10 + (d.toNat - 48)
        · rw [if_pos e3] at h; cases h
        · rw [if_neg e3] at h ⊢
          exact parseUintM_snoc M c hc r _ a h h1 h2
    · rw [if_neg e1] at h; cases h

theorem parseUintM_dgs (M : Nat) : ∀ (N u : Nat), u < 10 ^ N → u ≤ M → u ≤ 9223372036854775808 → parseUintM M 0 (dgs u N) = .ok u
  | 0, u, h, _, _ => by
    obtain rfl : u = 0 := by simpa using h
    rfl
  | N + 1, u, h, hM, h63 => by
    rw [dgs_snoc]
    have hd : (dg u 0).toNat = 48 + u % 10 := by rw [dg_val]; simp
    have ih := parseUintM_dgs M N (u / 10) (by rw [Nat.pow_succ] at h; omega) (by omega) (by omega)
    rw [parseUintM_snoc M (dg u 0) (by omega) _ 0 (u / 10) ih (by omega) (by omega), hd]
    congr 1
    omega

theorem decDigits_dgs (u : Nat) : decDigits u = dgs u (nDigits u) := decDigits_eq u

/-- the sign and the digits: what '%020d' prints -/
def sign20 (p : Int) : List UInt8 := Extern.FmtText.zeros 20 p
theorem sign20_pos {p : Int} (h0 : 0 ≤ p) (h1 : p ≤ 9223372036854775807) : sign20 p = dgs p.toNat 20 := by
  unfold sign20 Extern.FmtText.zeros
  rw [if_neg (by omega), pad_dgs (by decide) (by omega)]
theorem sign20_neg {p : Int} (h0 : p < 0) (h1 : -9223372036854775808 ≤ p) : sign20 p = 45 :: dgs p.natAbs 19 := by
  unfold sign20 Extern.FmtText.zeros
  rw [if_pos h0, pad_dgs (by decide) (by omega)]
theorem sign20_length {p : Int} (h0 : -9223372036854775808 ≤ p) (h1 : p ≤ 9223372036854775807) : (sign20 p).length = 20 := by
  by_cases h : p < 0
  · rw [sign20_neg h h0]; simp [dgs_length]
  · rw [sign20_pos (by omega) h1, dgs_length]

theorem parse_dgs {u N : Nat} (hN : 0 < N) (h : u < 10 ^ N) (h63 : u < 9223372036854775808) : parseIntB 64 (dgs u N) = .ok (u : Int) := by
  obtain ⟨M, rfl⟩ : ∃ M, N = M + 1 := ⟨N - 1, by omega⟩
  have hu := parseUintM_dgs (2 ^ 64 - 1) (M + 1) u h (by omega) (by omega)
  rw [dgs_cons] at hu ⊢
  have hd := dg_val u M
  have hm := Nat.mod_lt (u / 10 ^ M) (show 0 < 10 by decide)
  have e2 : ¬ (dg u M).toNat = 45 := by omega
  unfold parseIntB parseUintB
  have e3 : ¬ (dg u M).toNat = 43 := by omega
  simp only [e2, e3, or_self, if_false, reduceCtorEq, hu, not_false_eq_true, true_and, false_and]
  rw [if_neg (by omega)]
theorem parse_neg {u N : Nat} (hN : 0 < N) (h : u < 10 ^ N) (h63 : u ≤ 9223372036854775808) : parseIntB 64 (45 :: dgs u N) = .ok (-(u : Int)) := by
  have hu := parseUintM_dgs (2 ^ 64 - 1) N u h (by omega) (by omega)
  have hne : dgs u N ≠ [] := fun e => by have := congrArg List.length e; rw [dgs_length] at this; simp at this; omega
  unfold parseIntB parseUintB
  have e1 : (45 : UInt8).toNat = 45 := rfl
  simp only [e1, or_true, if_true, if_neg hne, hu, not_true_eq_false, false_and, true_and, if_false]
  rw [if_neg (by omega)]
theorem parse_sign20 {p : Int} (h0 : -9223372036854775808 ≤ p) (h1 : p ≤ 9223372036854775807) : parseIntB 64 (sign20 p) = .ok p := by
  by_cases h : p < 0
  · rw [sign20_neg h h0, parse_neg (by decide) (by omega) (by omega)]
    congr 1; omega
  · rw [sign20_pos (by omega) h1, parse_dgs (by decide) (by omega) (by omega)]
    congr 1; omega
theorem parse_itoa {j : Nat} (h : j < 65536) : parseIntB 64 (itoa (j : Int)) = .ok (j : Int) := by
  rw [itoa_nonneg, decDigits_dgs]
  exact parse_dgs (nDigits_pos j) (lt_pow_nDigits j) (by omega)
/-- as the empty text: no numeral -/
theorem parse_x (l : List UInt8) : parseIntB 64 (120 :: l) = parseIntB 64 [] := by
  unfold parseIntB parseUintB
  simp [parseUintM]
end Go.Proofs.YbulkhyeFmt
