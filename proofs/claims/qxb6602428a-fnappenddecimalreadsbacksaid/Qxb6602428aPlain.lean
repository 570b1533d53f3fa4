/-
  THE PLAIN LAWS for appendDecimal: the text as a list of bytes (numbers). No Go in sight.
-/
namespace Go.Proofs.Qxb6602428a
namespace Plain

/-- a decimal digit's byte -/
def dig (c : Int) : Bool := decide (48 ≤ c ∧ c ≤ 57)
def pt (c : Int) : Bool := decide (c = 46)
theorem dig_iff {c : Int} : dig c = true ↔ 48 ≤ c ∧ c ≤ 57 := decide_eq_true_iff
theorem dig_no {c : Int} : dig c = false ↔ ¬ (48 ≤ c ∧ c ≤ 57) := decide_eq_false_iff_not

/-- what stands behind the sign -/
def body (D : List Int) (P : Nat) : List Int :=
  if P = 0 then D else if D.length ≤ P then [48, 46] ++ List.replicate (P - D.length) 48 ++ D else D.take (D.length - P) ++ [46] ++ D.drop (D.length - P)
def sign (neg : Bool) : List Int := if neg = true then [45] else []
def out (neg : Bool) (D : List Int) (P : Nat) : List Int := sign neg ++ body D P
/-- how many zeros stand in front when the text is read back -/
def front (D : List Int) (P : Nat) : Nat := if P = 0 then 0 else if D.length ≤ P then P - D.length + 1 else 0

def AllDig (D : List Int) : Prop := ∀ c ∈ D, dig c = true

theorem body0 (D : List Int) : body D 0 = D := by unfold body; rw [if_pos rfl]
theorem body_short {D : List Int} {P : Nat} (h0 : P ≠ 0) (h : D.length ≤ P) : body D P = [48, 46] ++ List.replicate (P - D.length) 48 ++ D := by
  unfold body; rw [if_neg h0, if_pos h]
theorem body_long {D : List Int} {P : Nat} (h0 : P ≠ 0) (h : ¬ D.length ≤ P) : body D P = D.take (D.length - P) ++ [46] ++ D.drop (D.length - P) := by
  unfold body; rw [if_neg h0, if_neg h]

theorem filter_all {p : Int → Bool} {D : List Int} (h : ∀ c ∈ D, p c = true) : D.filter p = D := List.filter_eq_self.2 h
theorem filter_none {p : Int → Bool} {D : List Int} (h : ∀ c ∈ D, p c = false) : D.filter p = [] := List.filter_eq_nil_iff.2 (fun c hc => by rw [h c hc]; decide)

theorem dig_not_pt {c : Int} (h : dig c = true) : pt c = false := by
  have := dig_iff.1 h
  exact decide_eq_false (by omega)

theorem rep_dig (k : Nat) : AllDig (List.replicate k 48) := fun c hc => by
  rw [(List.mem_replicate.1 hc).2]; rfl

theorem take_dig {D : List Int} (h : AllDig D) (k : Nat) : AllDig (D.take k) := fun c hc => h c (List.mem_of_mem_take hc)
theorem drop_dig {D : List Int} (h : AllDig D) (k : Nat) : AllDig (D.drop k) := fun c hc => h c (List.mem_of_mem_drop hc)

/-- (a) every byte behind the sign is a digit or the point -/
theorem body_bytes {D : List Int} (h : AllDig D) (P : Nat) : ∀ c ∈ body D P, dig c = true ∨ c = 46 := by
  intro c hc
  by_cases h0 : P = 0
  · subst h0
    rw [body0] at hc
    exact Or.inl (h c hc)
  · by_cases h1 : D.length ≤ P
    · rw [body_short h0 h1] at hc
      simp only [List.cons_append, List.nil_append, List.mem_cons, List.mem_append] at hc
      rcases hc with rfl | rfl | hc | hc
      · exact Or.inl rfl
      · exact Or.inr rfl
      · exact Or.inl (rep_dig _ c hc)
      · exact Or.inl (h c hc)
    · rw [body_long h0 h1] at hc
      simp only [List.mem_append, List.mem_singleton] at hc
      rcases hc with (hc | rfl) | hc
      · exact Or.inl (take_dig h _ c hc)
      · exact Or.inr rfl
      · exact Or.inl (drop_dig h _ c hc)

theorem out_range {D : List Int} (h : AllDig D) (neg : Bool) (P : Nat) : ∀ c ∈ out neg D P, 0 ≤ c ∧ c ≤ 255 := by
  intro c hc
  unfold out at hc
  rw [List.mem_append] at hc
  rcases hc with hc | hc
  · cases neg with
    | true =>
      have e : c = 45 := List.mem_singleton.1 hc
      omega
    | false => cases hc
  · rcases body_bytes h P c hc with hd | rfl
    · have := dig_iff.1 hd
      omega
    · omega

/-- (b) the digits that are read back -/
theorem body_digits {D : List Int} (h : AllDig D) (P : Nat) : (body D P).filter dig = List.replicate (front D P) 48 ++ D := by
  unfold front
  by_cases h0 : P = 0
  · subst h0
    rw [body0, if_pos rfl]
    exact filter_all h
  · rw [if_neg h0]
    by_cases h1 : D.length ≤ P
    · rw [body_short h0 h1, if_pos h1, List.filter_append, List.filter_append, filter_all (rep_dig _), filter_all h]
      rfl
    · rw [body_long h0 h1, if_neg h1, List.filter_append, List.filter_append, filter_all (take_dig h _), filter_all (drop_dig h _)]
      have e : ([46] : List Int).filter dig = [] := rfl
      rw [e, List.append_nil, List.take_append_drop]
      rfl

theorem out_digits {D : List Int} (h : AllDig D) (neg : Bool) (P : Nat) : (out neg D P).filter dig = List.replicate (front D P) 48 ++ D := by
  unfold out
  rw [List.filter_append, body_digits h]
  cases neg <;> rfl

/-- (c) one point at most, one digit at least -/
theorem body_points {D : List Int} (h : AllDig D) (P : Nat) : ((body D P).filter pt).length ≤ 1 := by
  by_cases h0 : P = 0
  · subst h0
    rw [body0, filter_none (fun c hc => dig_not_pt (h c hc))]
    simp
  · by_cases h1 : D.length ≤ P
    · rw [body_short h0 h1, List.filter_append, List.filter_append, filter_none (fun c hc => dig_not_pt (rep_dig _ c hc)), filter_none (fun c hc => dig_not_pt (h c hc))]
      decide
    · rw [body_long h0 h1, List.filter_append, List.filter_append, filter_none (fun c hc => dig_not_pt (take_dig h _ c hc)), filter_none (fun c hc => dig_not_pt (drop_dig h _ c hc))]
      decide
theorem body_some {D : List Int} (h : AllDig D) (P : Nat) (hne : ¬ (D.length = 0 ∧ P = 0)) : 0 < ((body D P).filter dig).length := by
  rw [body_digits h, List.length_append, List.length_replicate]
  unfold front
  by_cases h0 : P = 0
  · subst h0
    simp only [and_true] at hne
    omega
  · rw [if_neg h0]
    split <;> omega

/-- the first byte behind the sign is a digit -/
theorem body_head {D : List Int} (h : AllDig D) (P : Nat) (hne : ¬ (D.length = 0 ∧ P = 0)) : ∃ c r, body D P = c :: r ∧ dig c = true := by
  by_cases h0 : P = 0
  · subst h0
    rw [body0]
    cases D with
    | nil => simp at hne
    | cons c r => exact ⟨c, r, rfl, h c (List.mem_cons_self)⟩
  · by_cases h1 : D.length ≤ P
    · rw [body_short h0 h1]
      exact ⟨48, _, rfl, rfl⟩
    · rw [body_long h0 h1]
      cases D with
      | nil => simp at h1
      | cons c r =>
        obtain ⟨k, hk⟩ : ∃ k, (c :: r).length - P = k + 1 := ⟨(c :: r).length - P - 1, by omega⟩
        rw [hk, List.take_succ_cons]
        exact ⟨c, _, rfl, h c (List.mem_cons_self)⟩

/-- (d) the point, and what stands behind it -/
theorem body_point {D : List Int} (h : AllDig D) {P : Nat} (h0 : P ≠ 0) : ∃ a b, body D P = a ++ (46 :: b) ∧ AllDig a ∧ b.length = P := by
  by_cases h1 : D.length ≤ P
  · refine ⟨[48], List.replicate (P - D.length) 48 ++ D, by rw [body_short h0 h1]; rfl, rep_dig 1, ?_⟩
    rw [List.length_append, List.length_replicate]
    omega
  · refine ⟨D.take (D.length - P), D.drop (D.length - P), ?_, take_dig h _, ?_⟩
    · rw [body_long h0 h1, List.append_assoc]
      rfl
    · rw [List.length_drop]
      omega

theorem body_length_le (D : List Int) (P : Nat) : (body D P).length ≤ D.length + P + 2 := by
  by_cases h0 : P = 0
  · subst h0
    rw [body0]
    omega
  · by_cases h1 : D.length ≤ P
    · rw [body_short h0 h1]
      simp
      omega
    · rw [body_long h0 h1]
      simp
      omega
theorem out_length_le (neg : Bool) (D : List Int) (P : Nat) : (out neg D P).length ≤ D.length + P + 3 := by
  unfold out
  rw [List.length_append]
  have := body_length_le D P
  cases neg <;> simp [sign] <;> omega

/-! ### counting byte by byte -/
theorem take_snoc (L : List Int) (i : Nat) (h : i < L.length) : L.take (i + 1) = L.take i ++ [L.getD i 0] := by
  rw [List.take_succ_eq_append_getElem h, List.getD_eq_getElem?_getD, List.getElem?_eq_getElem h]
  rfl
theorem filter_snoc (p : Int → Bool) (L : List Int) (i : Nat) (h : i < L.length) : (L.take (i + 1)).filter p = (L.take i).filter p ++ (if p (L.getD i 0) = true then [L.getD i 0] else []) := by
  rw [take_snoc L i h, List.filter_append]
  congr 1
  simp only [List.filter_cons, List.filter_nil]
theorem filter_yes {p : Int → Bool} {L : List Int} {i : Nat} (h : i < L.length) (hp : p (L.getD i 0) = true) : (L.take (i + 1)).filter p = (L.take i).filter p ++ [L.getD i 0] := by
  rw [filter_snoc p L i h, if_pos hp]
theorem filter_nope {p : Int → Bool} {L : List Int} {i : Nat} (h : i < L.length) (hp : p (L.getD i 0) = false) : (L.take (i + 1)).filter p = (L.take i).filter p := by
  rw [filter_snoc p L i h, if_neg (by rw [hp]; decide), List.append_nil]
theorem filter_len_le (p : Int → Bool) (L : List Int) (i : Nat) : ((L.take i).filter p).length ≤ i := by
  have h1 := List.length_filter_le p (L.take i)
  have h2 := List.length_take_le i L
  omega
theorem getD_mem {L : List Int} {i : Nat} (h : i < L.length) : L.getD i 0 ∈ L := by
  rw [List.getD_eq_getElem?_getD, List.getElem?_eq_getElem h]
  exact List.getElem_mem h

end Plain
end Go.Proofs.Qxb6602428a
