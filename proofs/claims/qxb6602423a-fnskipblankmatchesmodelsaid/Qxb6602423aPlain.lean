/-
  THE PLAIN LAWS for skipBlank: a text of n bytes as numbers 'g 0 .. g (n-1)'. No Go in sight.
-/
namespace Go.Proofs.Qxb6602423a
namespace Plain

/-- a blank byte -/
def sp (c : Int) : Bool := decide (c = 32 ∨ (9 ≤ c ∧ c ≤ 13))
/-- the bytes a, b stand at i, i+1 -/
def two (n : Nat) (g : Nat → Int) (a b : Int) (i : Nat) : Bool := decide (i + 1 < n ∧ g i = a ∧ g (i + 1) = b)

/-- the first place from i on (within the fuel) at which p does not hold -/
def run (p : Nat → Bool) : Nat → Nat → Nat
  | 0, i => i
  | f + 1, i => if p i = true then run p f (i + 1) else i

theorem run_ge (p : Nat → Bool) : ∀ f i, i ≤ run p f i
  | 0, i => Nat.le_refl _
  | f + 1, i => by
    unfold run
    split
    · have := run_ge p f (i + 1); omega
    · omega

theorem run_le (p : Nat → Bool) (n : Nat) (h : ∀ i, p i = true → i < n) : ∀ f i, i ≤ n → run p f i ≤ n
  | 0, i, hi => hi
  | f + 1, i, hi => by
    unfold run
    split
    · rename_i hp
      exact run_le p n h f (i + 1) (h i hp)
    · exact hi

/-- With fuel enough the scan ends where p fails. -/
theorem run_at (p : Nat → Bool) (n : Nat) (h : ∀ i, p i = true → i < n) : ∀ (f i j : Nat), i ≤ j → n ≤ i + f → (∀ k, i ≤ k → k < j → p k = true) → p j = false → run p f i = j
  | 0, i, j, hij, hf, hall, hj => by
    unfold run
    rcases Nat.lt_or_ge i j with hlt | hge
    · have := h i (hall i (Nat.le_refl _) hlt); omega
    · omega
  | f + 1, i, j, hij, hf, hall, hj => by
    unfold run
    rcases Nat.lt_or_ge i j with hlt | hge
    · rw [if_pos (hall i (Nat.le_refl _) hlt)]
      exact run_at p n h f (i + 1) j hlt (by omega) (fun k hk hk2 => hall k (by omega) hk2) hj
    · have e : i = j := by omega
      subst e
      rw [if_neg (by rw [hj]; decide)]

def pSp (n : Nat) (g : Nat → Int) (i : Nat) : Bool := decide (i < n) && sp (g i)
def pLn (n : Nat) (g : Nat → Int) (i : Nat) : Bool := decide (i < n) && decide (g i ≠ 10)
theorem pSp_lt {n : Nat} {g : Nat → Int} (i : Nat) (h : pSp n g i = true) : i < n := by
  unfold pSp at h
  simp only [Bool.and_eq_true, decide_eq_true_eq] at h
  exact h.1
theorem pLn_lt {n : Nat} {g : Nat → Int} (i : Nat) (h : pLn n g i = true) : i < n := by
  unfold pLn at h
  simp only [Bool.and_eq_true, decide_eq_true_eq] at h
  exact h.1

def spEnd (n : Nat) (g : Nat → Int) (i : Nat) : Nat := run (pSp n g) n i
def lnEnd (n : Nat) (g : Nat → Int) (i : Nat) : Nat := run (pLn n g) n i
/-- behind a line comment: behind the line feed, or the text's end -/
def lnNext (n : Nat) (g : Nat → Int) (i : Nat) : Nat := if lnEnd n g i = n then n else lnEnd n g i + 1

theorem spEnd_at {n : Nat} {g : Nat → Int} {i j : Nat} (hij : i ≤ j) (hall : ∀ k, i ≤ k → k < j → pSp n g k = true) (hj : pSp n g j = false) : spEnd n g i = j :=
  run_at _ n pSp_lt n i j hij (by omega) hall hj
theorem lnEnd_at {n : Nat} {g : Nat → Int} {i j : Nat} (hij : i ≤ j) (hall : ∀ k, i ≤ k → k < j → pLn n g k = true) (hj : pLn n g j = false) : lnEnd n g i = j :=
  run_at _ n pLn_lt n i j hij (by omega) hall hj

/-! ### a block comment, by a depth -/
def bcF (n : Nat) (g : Nat → Int) : Nat → Nat → Nat → Nat
  | 0, i, _ => i
  | f + 1, i, d =>
    if n ≤ i then i
    else if two n g 47 42 i = true then bcF n g f (i + 2) (d + 1)
    else if two n g 42 47 i = true then (if d = 1 then i + 2 else bcF n g f (i + 2) (d - 1))
    else bcF n g f (i + 1) d

theorem two_lt {n : Nat} {g : Nat → Int} {a b : Int} {i : Nat} (h : two n g a b i = true) : i + 1 < n := by
  unfold two at h
  exact (of_decide_eq_true h).1

theorem bcF_fuel (n : Nat) (g : Nat → Int) : ∀ (f f' i d : Nat), n ≤ i + f → n ≤ i + f' → bcF n g f i d = bcF n g f' i d
  | 0, 0, i, d, _, _ => rfl
  | 0, f' + 1, i, d, h, _ => by
    unfold bcF
    rw [if_pos (by omega)]
  | f + 1, 0, i, d, _, h' => by
    unfold bcF
    rw [if_pos (by omega)]
  | f + 1, f' + 1, i, d, h, h' => by
    unfold bcF
    by_cases h0 : n ≤ i
    · rw [if_pos h0, if_pos h0]
    · rw [if_neg h0, if_neg h0, bcF_fuel n g f f' (i + 2) (d + 1) (by omega) (by omega), bcF_fuel n g f f' (i + 2) (d - 1) (by omega) (by omega), bcF_fuel n g f f' (i + 1) d (by omega) (by omega)]

def bc (n : Nat) (g : Nat → Int) (i d : Nat) : Nat := bcF n g n i d

theorem bc_end {n : Nat} {g : Nat → Int} {i d : Nat} (h : n ≤ i) : bc n g i d = i := by
  unfold bc
  rw [bcF_fuel n g n 0 i d (by omega) (by omega)]
  rfl
theorem bc_step (n : Nat) (g : Nat → Int) (i d : Nat) : bc n g i d =
    if n ≤ i then i
    else if two n g 47 42 i = true then bc n g (i + 2) (d + 1)
    else if two n g 42 47 i = true then (if d = 1 then i + 2 else bc n g (i + 2) (d - 1))
    else bc n g (i + 1) d := by
  by_cases h0 : n ≤ i
  · rw [if_pos h0, bc_end h0]
  · unfold bc
    obtain ⟨m, rfl⟩ : ∃ m, n = m + 1 := ⟨n - 1, by omega⟩
    rw [bcF_fuel _ g (m + 1) ((m + 1) + 1) i d (by omega) (by omega)]
    rfl
theorem bc_open {n : Nat} {g : Nat → Int} {i d : Nat} (h : two n g 47 42 i = true) : bc n g i d = bc n g (i + 2) (d + 1) := by
  have := two_lt h
  rw [bc_step, if_neg (by omega), if_pos h]
theorem bc_close1 {n : Nat} {g : Nat → Int} {i : Nat} (h0 : two n g 47 42 i = false) (h : two n g 42 47 i = true) : bc n g i 1 = i + 2 := by
  have := two_lt h
  rw [bc_step, if_neg (by omega), if_neg (by rw [h0]; decide), if_pos h, if_pos rfl]
theorem bc_close2 {n : Nat} {g : Nat → Int} {i d : Nat} (h0 : two n g 47 42 i = false) (h : two n g 42 47 i = true) (hd : d ≠ 1) : bc n g i d = bc n g (i + 2) (d - 1) := by
  have := two_lt h
  rw [bc_step, if_neg (by omega), if_neg (by rw [h0]; decide), if_pos h, if_neg hd]
theorem bc_other {n : Nat} {g : Nat → Int} {i d : Nat} (hi : i < n) (h0 : two n g 47 42 i = false) (h : two n g 42 47 i = false) : bc n g i d = bc n g (i + 1) d := by
  rw [bc_step, if_neg (by omega), if_neg (by rw [h0]; decide), if_neg (by rw [h]; decide)]

theorem bc_bounds (n : Nat) (g : Nat → Int) : ∀ (t i d : Nat), n - i ≤ t → i ≤ n → i ≤ bc n g i d ∧ bc n g i d ≤ n
  | t, i, d, ht, hi => by
    rcases Nat.lt_or_ge i n with hlt | hge
    · cases t with
      | zero => omega
      | succ t =>
        cases h1 : two n g 47 42 i with
        | true =>
          have := two_lt h1
          have ih := bc_bounds n g t (i + 2) (d + 1) (by omega) (by omega)
          rw [bc_open h1]
          omega
        | false =>
          cases h2 : two n g 42 47 i with
          | true =>
            have := two_lt h2
            by_cases hd : d = 1
            · subst hd
              rw [bc_close1 h1 h2]
              omega
            · have ih := bc_bounds n g t (i + 2) (d - 1) (by omega) (by omega)
              rw [bc_close2 h1 h2 hd]
              omega
          | false =>
            have ih := bc_bounds n g t (i + 1) d (by omega) (by omega)
            rw [bc_other hlt h1 h2]
            omega
    · rw [bc_end hge]
      omega

theorem bc_ge {n : Nat} {g : Nat → Int} {i d : Nat} (hi : i ≤ n) : i ≤ bc n g i d := (bc_bounds n g (n - i) i d (Nat.le_refl _) hi).1
theorem bc_le {n : Nat} {g : Nat → Int} {i d : Nat} (hi : i ≤ n) : bc n g i d ≤ n := (bc_bounds n g (n - i) i d (Nat.le_refl _) hi).2

/-- A comment inside a comment: first the inner one's end, then on with the outer. -/
theorem bc_nest (n : Nat) (g : Nat → Int) : ∀ (t i d : Nat), n - i ≤ t → i ≤ n → bc n g i (d + 2) = bc n g (bc n g i 1) (d + 1)
  | t, i, d, ht, hi => by
    rcases Nat.lt_or_ge i n with hlt | hge
    · cases t with
      | zero => omega
      | succ t =>
        cases h1 : two n g 47 42 i with
        | true =>
          have hl := two_lt h1
          rw [bc_open h1, bc_open h1, bc_nest n g t (i + 2) (d + 1) (by omega) (by omega), bc_nest n g t (i + 2) 0 (by omega) (by omega)]
          have g1 := bc_ge (g := g) (d := 1) (show i + 2 ≤ n by omega)
          have g2 := bc_le (g := g) (d := 1) (show i + 2 ≤ n by omega)
          exact bc_nest n g t (bc n g (i + 2) 1) d (by omega) g2
        | false =>
          cases h2 : two n g 42 47 i with
          | true =>
            rw [bc_close1 h1 h2, bc_close2 h1 h2 (by omega)]
            rfl
          | false =>
            rw [bc_other hlt h1 h2, bc_other hlt h1 h2]
            exact bc_nest n g t (i + 1) d (by omega) (by omega)
    · rw [bc_end hge, bc_end hge, bc_end hge]

/-! ### one step over blanks -/
def skOk (n : Nat) (g : Nat → Int) (p : Nat) : Bool := decide (p < n) && (sp (g p) || two n g 45 45 p || two n g 47 42 p)
def skTo (n : Nat) (g : Nat → Int) (p : Nat) : Nat :=
  if n ≤ p then p
  else if sp (g p) = true then spEnd n g (p + 1)
  else if two n g 45 45 p = true then lnNext n g (p + 2)
  else if two n g 47 42 p = true then bc n g (p + 2) 1
  else p

theorem skTo_no {n : Nat} {g : Nat → Int} {p : Nat} (h : skOk n g p = false) : skTo n g p = p := by
  unfold skTo
  unfold skOk at h
  by_cases h0 : n ≤ p
  · rw [if_pos h0]
  · have : decide (p < n) = true := decide_eq_true (by omega)
    rw [this, Bool.true_and] at h
    simp only [Bool.or_eq_false_iff] at h
    rw [if_neg h0, if_neg (by rw [h.1.1]; decide), if_neg (by rw [h.1.2]; decide), if_neg (by rw [h.2]; decide)]

theorem skTo_yes {n : Nat} {g : Nat → Int} {p : Nat} (h : skOk n g p = true) : p < skTo n g p ∧ skTo n g p ≤ n := by
  unfold skTo
  unfold skOk at h
  simp only [Bool.and_eq_true, decide_eq_true_eq, Bool.or_eq_true] at h
  obtain ⟨h0, h⟩ := h
  rw [if_neg (by omega)]
  by_cases h1 : sp (g p) = true
  · rw [if_pos h1]
    have a := run_ge (pSp n g) n (p + 1)
    have b := run_le (pSp n g) n pSp_lt n (p + 1) h0
    unfold spEnd
    omega
  · rw [if_neg h1]
    by_cases h2 : two n g 45 45 p = true
    · rw [if_pos h2]
      have hl := two_lt h2
      have a := run_ge (pLn n g) n (p + 2)
      have b := run_le (pLn n g) n pLn_lt n (p + 2) (by omega)
      unfold lnNext
      unfold lnEnd at *
      split <;> omega
    · rw [if_neg h2]
      by_cases h3 : two n g 47 42 p = true
      · rw [if_pos h3]
        have hl := two_lt h3
        have a := bc_ge (g := g) (d := 1) (show p + 2 ≤ n by omega)
        have b := bc_le (g := g) (d := 1) (show p + 2 ≤ n by omega)
        omega
      · rcases h with (h | h) | h
        · exact absurd h h1
        · exact absurd h h2
        · exact absurd h h3

end Plain
end Go.Proofs.Qxb6602423a
