/-
  THE PLAIN LAWS for FnParseVersionReadsWhatIsWritten: decimal digits, what a parse of them gives, where 'beta' and 'alpha' are cut. No Go in sight.
-/
import Derived.Lib.ItoaNum
import Derived.Lib.ParseIntB
import Derived.Lib.CutLaws
namespace Go.Proofs.Qxb6601736aDoor
namespace Plain
open Go.Lib

theorem ofNat_dig (x : Nat) : (UInt8.ofNat (48 + x % 10)).toNat = 48 + x % 10 := by
  rw [UInt8.toNat_ofNat']
  omega

theorem decDigits_dig (u : Nat) : ∀ c ∈ decDigits u, 48 ≤ c.toNat ∧ c.toNat ≤ 57 := by
  intro c hc
  rw [decDigits_eq] at hc
  obtain ⟨t, _, rfl⟩ := List.mem_map.1 hc
  unfold dg
  rw [ofNat_dig]
  omega

theorem decDigits_ne (u : Nat) : decDigits u ≠ [] := by
  intro h
  have h1 := decDigits_length u
  have h2 := nDigits_pos u
  rw [h] at h1
  simp at h1
  omega

theorem nDigits_le (u : Nat) (h : u < 18446744073709551616) : nDigits u ≤ 20 := by
  rcases Nat.lt_or_ge 20 (nDigits u) with hlt | hge
  · exfalso
    have aux : ∀ (k v : Nat), k < nDigits v → 10 ^ k ≤ v ∨ k = 0 := by
      intro k
      induction k with
      | zero => intro v _; exact Or.inr rfl
      | succ k ih =>
        intro v hv
        left
        have hb : ¬ v < 10 := by
          intro hs
          rw [nDigits_small hs] at hv
          omega
        rw [nDigits_big hb] at hv
        rcases ih (v / 10) (by omega) with h1 | h1
        · rw [Nat.pow_succ]; omega
        · subst h1; simp; omega
    rcases aux 20 u hlt with h1 | h1
    · have : (10 : Nat) ^ 20 = 100000000000000000000 := by decide
      omega
    · omega
  · exact hge

theorem parse_snoc (M : Nat) (c : UInt8) : ∀ (l : List UInt8) (acc a : Nat), parseUintM M acc l = .ok a → parseUintM M acc (l ++ [c]) = parseUintM M a [c]
  | [], acc, a, h => by
    simp only [parseUintM] at h
    injection h with h
    subst h
    rfl
  | d :: r, acc, a, h => by
    simp only [List.cons_append]
    unfold parseUintM at h ⊢
    by_cases h1 : 48 ≤ d.toNat ∧ d.toNat ≤ 57
    · rw [if_pos h1] at h ⊢
      by_cases h2 : 1844674407370955162 ≤ acc
      · rw [if_pos h2] at h; cases h
      · rw [if_neg h2] at h ⊢
        by_cases h3 : M < acc * 10 + (d.toNat - 48)
        · rw [if_pos h3] at h; cases h
        · rw [if_neg h3] at h ⊢
          rw [parse_snoc M c r _ a h]
          rfl
    · rw [if_neg h1] at h; cases h

theorem parse_digits : ∀ (u : Nat), u < 18446744073709551616 → parseUintM (2 ^ 64 - 1) 0 (decDigits u) = .ok u := by
  intro u
  induction u using Nat.strongRecOn with
  | _ u ih =>
    intro hu
    have hM : (2 : Nat) ^ 64 - 1 = 18446744073709551615 := by decide
    by_cases h : u < 10
    · rw [decDigits_one h]
      have e : (UInt8.ofNat (48 + u)).toNat = 48 + u := by
        rw [UInt8.toNat_ofNat']
        omega
      unfold parseUintM
      rw [e, if_pos (by omega), if_neg (by omega), hM, if_neg (by omega)]
      unfold parseUintM
      congr 1
      omega
    · rw [decDigits, dif_neg h, parse_snoc _ _ _ 0 (u / 10) (ih (u / 10) (by omega) (by omega))]
      unfold parseUintM
      rw [ofNat_dig, if_pos (by omega), if_neg (by omega), hM, if_neg (by omega)]
      unfold parseUintM
      congr 1
      omega

theorem parseB_digits (u : Nat) (h : u < 18446744073709551616) : parseUintB 64 (decDigits u) = .ok u := by
  unfold parseUintB
  rw [if_neg (decDigits_ne u)]
  exact parse_digits u h

/-! ### the cuts -/
theorem occ_false {c : UInt8} {t l : List UInt8} (h : c ∉ l) (j : Nat) : occAt l (c :: t) j = false := by
  cases ho : occAt l (c :: t) j with
  | false => rfl
  | true => exact absurd (List.mem_of_getElem? (occAt_head rfl ho)) h

theorem cut_miss {c : UInt8} {t l : List UInt8} (h : c ∉ l) : cut l (c :: t) = (l, [], false) := by
  unfold cut
  rw [index_none (fun j _ => occ_false h j), if_neg (by decide)]

theorem cut_hit {c : UInt8} {t a b : List UInt8} (h : c ∉ a) : cut (a ++ (c :: t) ++ b) (c :: t) = (a, b, true) := by
  have hi : index (a ++ (c :: t) ++ b) (c :: t) = (a.length : Nat) := by
    refine index_first (by simp) ?_ ?_
    · unfold occAt
      rw [List.append_assoc, List.drop_left]
      exact List.isPrefixOf_iff_prefix.2 ⟨b, rfl⟩
    · intro j hj
      cases ho : occAt (a ++ (c :: t) ++ b) (c :: t) j with
      | false => rfl
      | true =>
        have h1 := occAt_head rfl ho
        rw [List.append_assoc, List.getElem?_append_left hj] at h1
        exact absurd (List.mem_of_getElem? h1) h
  unfold cut
  rw [hi, if_pos (by omega)]
  simp only [Int.toNat_natCast]
  have e1 : (a ++ (c :: t) ++ b).take a.length = a := by rw [List.append_assoc, List.take_left]
  have e2 : (a ++ (c :: t) ++ b).drop (a.length + (c :: t).length) = b := by
    rw [← List.length_append, List.drop_left]
  rw [e1, e2]

theorem notin_digits (u : Nat) {c : UInt8} (h : 57 < c.toNat) : c ∉ decDigits u := fun hm => by
  have := decDigits_dig u c hm
  omega

def beta : List UInt8 := [98, 101, 116, 97]
def alpha : List UInt8 := [97, 108, 112, 104, 97]

theorem cut_plain_beta (u : Nat) : cut (decDigits u) beta = (decDigits u, [], false) := cut_miss (notin_digits u (by decide))
theorem cut_plain_alpha (u : Nat) : cut (decDigits u) alpha = (decDigits u, [], false) := cut_miss (notin_digits u (by decide))
theorem cut_beta (u v : Nat) : cut (decDigits u ++ beta ++ decDigits v) beta = (decDigits u, decDigits v, true) := cut_hit (notin_digits u (by decide))
theorem cut_alpha (u v : Nat) : cut (decDigits u ++ alpha ++ decDigits v) alpha = (decDigits u, decDigits v, true) := cut_hit (notin_digits u (by decide))
theorem cut_alpha_beta (u v : Nat) : cut (decDigits u ++ alpha ++ decDigits v) beta = (decDigits u ++ alpha ++ decDigits v, [], false) := by
  refine cut_miss ?_
  intro hm
  rw [List.mem_append, List.mem_append] at hm
  rcases hm with (hm | hm) | hm
  · exact notin_digits u (by decide) hm
  · revert hm; decide
  · exact notin_digits v (by decide) hm

/-! ### the row of bytes that the writer fills from behind -/
/-- The twenty cells after k rounds, as numbers. -/
def row (u k : Nat) : List Int := (List.range 20).map fun j => if 20 ≤ j + k then ((48 + u / 10 ^ (19 - j) % 10 : Nat) : Int) else 0
theorem row_length (u k : Nat) : (row u k).length = 20 := by simp [row]
theorem row_zero (u : Nat) : row u 0 = List.replicate 20 0 := by
  unfold row
  rw [List.eq_replicate_iff]
  refine ⟨by simp, ?_⟩
  intro b hb
  obtain ⟨j, hj, rfl⟩ := List.mem_map.1 hb
  have := List.mem_range.1 hj
  rw [if_neg (by omega)]
theorem row_get (u k j : Nat) (hj : j < 20) : (row u k).getD j 0 = if 20 ≤ j + k then ((48 + u / 10 ^ (19 - j) % 10 : Nat) : Int) else 0 := by
  unfold row
  rw [List.getD_eq_getElem?_getD, List.getElem?_map, List.getElem?_range hj]
  rfl
theorem row_step (u k : Nat) (hk : k < 20) : (row u k).set (19 - k) ((48 + u / 10 ^ k % 10 : Nat) : Int) = row u (k + 1) := by
  apply List.ext_getElem?
  intro j
  by_cases hj : j < 20
  · have e1 := row_get u (k + 1) j hj
    have e0 := row_get u k j hj
    rw [List.getD_eq_getElem?_getD] at e0 e1
    rw [List.getElem?_set]
    have l1 : j < (row u (k + 1)).length := by rw [row_length]; exact hj
    have l0 : j < (row u k).length := by rw [row_length]; exact hj
    rw [List.getElem?_eq_getElem l1] at e1 ⊢
    rw [List.getElem?_eq_getElem l0] at e0 ⊢
    simp only [Option.getD_some] at e0 e1
    by_cases he : 19 - k = j
    · rw [if_pos he, if_pos (by rw [row_length]; omega)]
      rw [e1, if_pos (by omega), show 19 - j = k by omega]
    · rw [if_neg he, e1, e0]
      congr 1
      by_cases h2 : 20 ≤ j + k
      · rw [if_pos h2, if_pos (by omega)]
      · rw [if_neg h2, if_neg (by omega)]
  · rw [List.getElem?_eq_none (by rw [List.length_set, row_length]; omega), List.getElem?_eq_none (by rw [row_length]; omega)]

/-- Behind the last round the filled part is the numeral. -/
theorem row_tail (u k : Nat) (hk : 1 ≤ k) (hk20 : k ≤ 20) (hlo : 10 ^ (k - 1) ≤ u) (hhi : u < 10 ^ k) :
    ((row u k).drop (20 - k)).map (fun n => UInt8.ofNat n.toNat) = decDigits u := by
  obtain ⟨m, rfl⟩ : ∃ m, k = m + 1 := ⟨k - 1, by omega⟩
  have hn : nDigits u = m + 1 := nDigits_unique m u (by simpa using hlo) hhi
  rw [decDigits_eq, hn]
  apply List.ext_getElem?
  intro j
  by_cases hj : j < m + 1
  · have l0 : 20 - (m + 1) + j < (row u (m + 1)).length := by rw [row_length]; omega
    have e0 := row_get u (m + 1) (20 - (m + 1) + j) (by omega)
    rw [List.getD_eq_getElem?_getD, List.getElem?_eq_getElem l0] at e0
    simp only [Option.getD_some] at e0
    rw [List.getElem?_map, List.getElem?_drop, List.getElem?_eq_getElem l0, e0, if_pos (by omega), List.getElem?_map, List.getElem?_range hj]
    simp only [Option.map_some, dg, Int.toNat_natCast]
    rw [show 19 - (20 - (m + 1) + j) = m + 1 - 1 - j by omega]
  · rw [List.getElem?_eq_none (by rw [List.length_map, List.length_drop, row_length]; omega), List.getElem?_eq_none (by simp; omega)]

end Plain
end Go.Proofs.Qxb6601736aDoor
