/-
  THE PLAIN LAW: the whole history is token-once exactly when every part is and no value is written under two keys.
-/
import Derived.Test.Qxb6602630aKey
namespace Go.Proofs.Qxb6602630a

/-- two operations that do not write one value -/
def Apart (Z : Nat → ZOp) (i j : Nat) : Prop := isGet (Z i) = false → isGet (Z j) = false → (Z i).val ≠ (Z j).val

theorem Apart.symm {Z : Nat → ZOp} {i j : Nat} (h : Apart Z i j) : Apart Z j i := fun h1 h2 e => h h2 h1 e.symm

def Good (Z : Nat → ZOp) (js : List Nat) : Prop := (∀ i ∈ js, isGet (Z i) = false → tok (Z i).val = true) ∧ js.Pairwise (Apart Z)

theorem getD_get {js : List Nat} {t : Nat} (h : t < js.length) : js.getD t 0 = js[t] := by
  simp [List.getD, List.getElem?_eq_getElem h]

theorem bad_not_good {Z : Nat → ZOp} {js : List Nat} (h : Bad (fun t => Z (js.getD t 0)) js.length) : ¬ Good Z js := by
  rintro ⟨h1, h2⟩
  obtain ⟨t, ht, hg, h | ⟨u, hu, hgu, he⟩⟩ := h
  · simp only at hg h
    rw [getD_get ht] at hg h
    have := h1 _ (List.getElem_mem ht) hg
    rw [h] at this
    cases this
  · simp only at hg hgu he
    rw [getD_get ht] at hg he
    rw [getD_get (Nat.lt_trans hu ht)] at hgu he
    exact (List.pairwise_iff_getElem.1 h2) u t (Nat.lt_trans hu ht) ht hu hgu hg he

theorem inv_good {Z : Nat → ZOp} {js : List Nat} {f : ByteArray → Option Int} (h : Inv (fun t => Z (js.getD t 0)) js.length f) : Good Z js := by
  refine ⟨fun i hi hg => ?_, List.pairwise_iff_getElem.2 fun u t hu ht hut h1 h2 he => ?_⟩
  · obtain ⟨t, ht, rfl⟩ := List.getElem_of_mem hi
    have := h.1 t ht (by simp only [getD_get ht]; exact hg)
    simp only [getD_get ht] at this
    exact this.1
  · have a := h.1 u hu (by simp only [getD_get hu]; exact h1)
    have b := h.1 t ht (by simp only [getD_get ht]; exact h2)
    simp only [getD_get hu] at a
    simp only [getD_get ht] at b
    have e := a.2
    rw [he, b.2] at e
    simp only [Option.some.injEq] at e
    omega

theorem good_perm {Z : Nat → ZOp} {a b : List Nat} (h : a.Perm b) : Good Z a ↔ Good Z b := by
  unfold Good
  rw [h.pairwise_iff (fun {_ _} h => Apart.symm h)]
  exact and_congr_left fun _ => ⟨fun q i hi => q i (h.mem_iff.2 hi), fun q i hi => q i (h.mem_iff.1 hi)⟩

theorem good_flatten {Z : Nat → ZOp} {ps : List (List Nat)} : Good Z ps.flatten ↔ (∀ p ∈ ps, Good Z p) ∧ ps.flatten.Pairwise (Apart Z) := by
  constructor
  · rintro ⟨h1, h2⟩
    refine ⟨fun p hp => ⟨fun i hi => h1 i (List.mem_flatten.2 ⟨p, hp, hi⟩), ?_⟩, h2⟩
    exact (List.pairwise_flatten.1 h2).1 p hp
  · rintro ⟨h1, h2⟩
    refine ⟨fun i hi => ?_, h2⟩
    obtain ⟨p, hp, hi⟩ := List.mem_flatten.1 hi
    exact (h1 p hp).1 i hi

/-- the values written among L -/
def Seen (Z : Nat → ZOp) (L : List Nat) (seen : ByteArray → Bool) : Prop := ∀ s, seen s = true ↔ ∃ i ∈ L, isGet (Z i) = false ∧ (Z i).val = s

structure Out (Z : Nat → ZOp) (ps : List (List Nat)) (j : Nat) (allP cross : Bool) (seen : ByteArray → Bool) (L : List Nat) : Prop where
  all : allP = true → (∀ q, q < j → Good Z (ps.getD q [])) ∧ L = (ps.take j).flatten
  some : allP = false → ∃ q, q < ps.length ∧ ¬ Good Z (ps.getD q [])
  cross : cross = true ↔ L.Pairwise (Apart Z)
  seen : Seen Z L seen

theorem out_zero (Z : Nat → ZOp) (ps : List (List Nat)) : Out Z ps 0 true true (fun _ => false) [] :=
  ⟨(fun _ => ⟨(fun _ hq => absurd hq (Nat.not_lt_zero _)), by simp⟩), (fun h => Bool.noConfusion h), by simp, (fun s => by simp)⟩

theorem out_bad {Z : Nat → ZOp} {ps : List (List Nat)} {j : Nat} {allP cross : Bool} {seen : ByteArray → Bool} {L : List Nat} (h : Out Z ps j allP cross seen L) (hj : j < ps.length) (hb : ¬ Good Z (ps.getD j [])) : Out Z ps (j + 1) false cross seen L :=
  ⟨(fun h => Bool.noConfusion h), (fun _ => ⟨j, hj, hb⟩), h.cross, h.seen⟩

theorem out_good {Z : Nat → ZOp} {ps : List (List Nat)} {j : Nat} {allP cross cross' : Bool} {seen seen' : ByteArray → Bool} {L : List Nat} (h : Out Z ps j allP cross seen L) (hj : j < ps.length) (hg : Good Z (ps.getD j []))
    (hc : cross' = true ↔ (L ++ ps.getD j []).Pairwise (Apart Z)) (hs : Seen Z (L ++ ps.getD j []) seen') : Out Z ps (j + 1) allP cross' seen' (L ++ ps.getD j []) := by
  refine ⟨fun ha => ?_, h.some, hc, hs⟩
  obtain ⟨h1, h2⟩ := h.all ha
  refine ⟨fun q hq => ?_, ?_⟩
  · by_cases e : q = j
    · subst e; exact hg
    · exact h1 q (by omega)
  · rw [h2, List.take_add_one, List.flatten_append]
    simp [List.getD, List.getElem?_eq_getElem hj]

theorem out_end {Z : Nat → ZOp} {ps : List (List Nat)} {n : Nat} {allP cross : Bool} {seen : ByteArray → Bool} {L : List Nat} (h : Out Z ps ps.length allP cross seen L) (hp : ps.flatten.Perm (List.range n)) : Good Z (List.range n) ↔ (allP && cross) = true := by
  rw [← good_perm hp, good_flatten]
  have hmem : (∀ p ∈ ps, Good Z p) ↔ ∀ q, q < ps.length → Good Z (ps.getD q []) := by
    constructor
    · intro h q hq
      simp only [List.getD, List.getElem?_eq_getElem hq, Option.getD_some]
      exact h _ (List.getElem_mem hq)
    · intro h p hp
      obtain ⟨q, hq, rfl⟩ := List.getElem_of_mem hp
      have := h q hq
      simpa only [List.getD, List.getElem?_eq_getElem hq, Option.getD_some] using this
  rw [hmem]
  cases allP with
  | false =>
    obtain ⟨q, hq, hb⟩ := h.some rfl
    simp only [Bool.false_and, Bool.false_eq_true, iff_false]
    exact fun h => hb (h.1 q hq)
  | true =>
    obtain ⟨h1, h2⟩ := h.all rfl
    rw [List.take_length] at h2
    rw [Bool.true_and, h.cross, h2]
    exact ⟨fun h => h.2, fun h => ⟨h1, h⟩⟩

/-- within a part: p of its operations are looked at -/
structure In (Z : Nat → ZOp) (M : List Nat) (cross : Bool) (seen : ByteArray → Bool) : Prop where
  cross : cross = true ↔ M.Pairwise (Apart Z)
  seen : Seen Z M seen

theorem in_get {Z : Nat → ZOp} {M : List Nat} {i : Nat} {cross : Bool} {seen : ByteArray → Bool} (h : In Z M cross seen) (hg : isGet (Z i) = true) : In Z (M ++ [i]) cross seen := by
  refine ⟨?_, fun s => ?_⟩
  · rw [h.cross, List.pairwise_append]
    constructor
    · refine fun q => ⟨q, List.pairwise_singleton _ _, fun a _ b hb => ?_⟩
      simp only [List.mem_singleton] at hb
      subst hb
      intro _ h2
      rw [hg] at h2
      cases h2
    · exact fun q => q.1
  · rw [h.seen s]
    constructor
    · rintro ⟨a, h1, h2⟩
      exact ⟨a, List.mem_append_left _ h1, h2⟩
    · rintro ⟨a, h1, h2, h3⟩
      rcases List.mem_append.1 h1 with h1 | h1
      · exact ⟨a, h1, h2, h3⟩
      · simp only [List.mem_singleton] at h1
        subst h1
        rw [hg] at h2
        cases h2

theorem in_put {Z : Nat → ZOp} {M : List Nat} {i : Nat} {cross : Bool} {seen : ByteArray → Bool} (h : In Z M cross seen) (hg : isGet (Z i) = false) : In Z (M ++ [i]) (cross && !seen (Z i).val) (fun t => if t = (Z i).val then true else seen t) := by
  refine ⟨?_, fun s => ?_⟩
  · rw [Bool.and_eq_true, h.cross, List.pairwise_append]
    refine and_congr_right fun _ => ?_
    constructor
    · intro hs
      refine ⟨List.pairwise_singleton _ _, fun a ha b hb => ?_⟩
      simp only [List.mem_singleton] at hb
      subst hb
      intro h1 _ e
      have := (h.seen (Z b).val).2 ⟨a, ha, h1, e⟩
      rw [this] at hs
      cases hs
    · rintro ⟨_, q⟩
      cases hs : seen (Z i).val with
      | false => rfl
      | true =>
        obtain ⟨a, h1, h2, h3⟩ := (h.seen _).1 hs
        exact absurd h3 (q a h1 i (List.mem_singleton.2 rfl) h2 hg)
  · by_cases e : s = (Z i).val
    · simp only [if_pos e, true_iff]
      exact ⟨i, List.mem_append_right _ (List.mem_singleton.2 rfl), hg, e.symm⟩
    · simp only [if_neg e]
      rw [h.seen s]
      constructor
      · rintro ⟨a, h1, h2⟩
        exact ⟨a, List.mem_append_left _ h1, h2⟩
      · rintro ⟨a, h1, h2, h3⟩
        rcases List.mem_append.1 h1 with h1 | h1
        · exact ⟨a, h1, h2, h3⟩
        · simp only [List.mem_singleton] at h1
          subst h1
          exact absurd h3.symm e

theorem take_snoc {js : List Nat} {p : Nat} (h : p < js.length) : js.take (p + 1) = js.take p ++ [js.getD p 0] := by
  rw [List.take_add_one, getD_get h, List.getElem?_eq_getElem h]
  rfl

theorem full_len {ps : List (List Nat)} (h : Full ps) : ps.length ≤ ps.flatten.length := by
  induction ps with
  | nil => simp
  | cons p r ih =>
    have h1 : p ≠ [] := by simpa using h 0 (by simp)
    have h2 : Full r := fun j hj => by simpa using h (j + 1) (by simpa using hj)
    have := ih h2
    have h3 : 0 < p.length := List.length_pos_iff.2 h1
    simp only [List.length_cons, List.flatten_cons, List.length_append]
    omega
end Go.Proofs.Qxb6602630a
