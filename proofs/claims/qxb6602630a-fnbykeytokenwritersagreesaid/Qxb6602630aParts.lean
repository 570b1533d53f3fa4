/-
  The parts: a slice of slices of steps, each in a row of its own.
-/
import Derived.Test.Qxb6602630aTok
import Derived.OneCell
import Derived.Deep.AppendLies
import Derived.Deep.RegionHeld3
namespace Go.Proofs.Qxb6602630a
open Go.RowKit Go.PlainAid

theorem row_block {w : World} {base : Nat} {e : TypeId} {size : Nat} {v : Value} {n : Nat} {xs : List Value} (h : w.ownsRow base e size v n xs) {g : Nat} (hg : v.ownBlock = some g) : ∃ cur, w.heap[g]? = some (.cells cur e (0, 0)) := by
  rcases h.2 with ⟨rfl, _⟩ | ⟨g', cap, cur, rfl, _, hb, _⟩
  · cases hg
  · simp only [Value.ownBlock, Option.some.injEq] at hg
    subst hg
    exact ⟨cur, hb⟩

theorem row_shape {w : World} {base : Nat} {e : TypeId} {size : Nat} {v : Value} {n : Nat} {xs : List Value} (h : w.ownsRow base e size v n xs) : ∃ a cap, v = .slice a n cap := by
  rcases h.2 with ⟨rfl, rfl⟩ | ⟨g', cap, cur, rfl, _, hb, _⟩
  · exact ⟨none, 0, rfl⟩
  · exact ⟨_, _, rfl⟩

theorem rows_apart {w : World} {base base' : Nat} {e e' : TypeId} {size size' : Nat} {v v' : Value} {n n' : Nat} {xs xs' : List Value} (h : w.ownsRow base e size v n xs) (h' : w.ownsRow base' e' size' v' n' xs') (hne : e ≠ e') {g : Nat} (hg : v.ownBlock = some g) : v'.ownBlock ≠ some g := by
  intro hg'
  obtain ⟨c, h1⟩ := row_block h hg
  obtain ⟨c', h2⟩ := row_block h' hg'
  rw [h1] at h2
  simp only [Option.some.injEq, Obj.cells.injEq] at h2
  exact hne h2.2.1

theorem map_row {w : World} {b n sz : Nat} {f : ByteArray → Option Int} (h : MapSI w b n f sz) {base : Nat} {e : TypeId} {size : Nat} {v : Value} {m : Nat} {xs : List Value} (hr : w.ownsRow base e size v m xs) : v.ownBlock ≠ some b := by
  intro hg
  obtain ⟨c, h1⟩ := row_block hr hg
  obtain ⟨D, ⟨es, clock, he, _⟩, _⟩ := h
  rw [he] at h1
  cases h1

theorem mapSI_setCell {w : World} {b n sz : Nat} {f : ByteArray → Option Int} (h : MapSI w b n f sz) {a : Addr} (ha : b ≠ a.block) (u : Value) : MapSI (w.setCell a u) b n f sz := by
  obtain ⟨D, ho, hs, hf⟩ := h
  exact ⟨D, ho.setCell ha u, hs, hf⟩

/-- the steps' cells -/
def stepsOf (gb : Nat) : List Nat → List Value
  | [] => []
  | j :: r => stepCells gb j ++ stepsOf gb r

theorem stepsOf_snoc (gb : Nat) (js : List Nat) (i : Nat) : stepsOf gb (js ++ [i]) = stepsOf gb js ++ stepCells gb i := by
  induction js with
  | nil => simp [stepsOf]
  | cons j r ih => simp [stepsOf, ih]

theorem stepsOf_length (gb : Nat) (js : List Nat) : (stepsOf gb js).length = js.length * 4 := by
  induction js with
  | nil => rfl
  | cons j r ih =>
    simp only [stepsOf, List.length_append, ih, List.length_cons]
    simp [stepCells]
    omega

theorem stepsOf_get (gb : Nat) (js : List Nat) (t : Nat) (ht : t < js.length) (c : Nat) (v : Value) (hc : (stepCells gb (js.getD t 0))[c]? = some v) : (stepsOf gb js)[t * 4 + c]? = some v := by
  induction js generalizing t with
  | nil => simp at ht
  | cons j r ih =>
    have hl : (stepCells gb j).length = 4 := rfl
    cases t with
    | zero =>
      have hc4 : c < 4 := by
        have := (List.getElem?_eq_some_iff.1 hc).1
        simpa [stepCells] using this
      rw [stepsOf, List.getElem?_append_left (by rw [hl]; omega), Nat.zero_mul, Nat.zero_add]
      simpa using hc
    | succ t =>
      rw [stepsOf, List.getElem?_append_right (by rw [hl]; omega), hl, show (t + 1) * 4 + c - 4 = t * 4 + c by omega]
      exact ih t (by simpa using ht) (by simpa using hc)

structure Parts (w : World) (base gb : Nat) (V : Value) (ps : List (List Nat)) (vs : List Value) : Prop where
  row : w.ownsRow base 25 1 V ps.length vs
  part : ∀ j, j < ps.length → w.ownsRow base 30 4 (vs.getD j undef) (ps.getD j []).length (stepsOf gb (ps.getD j []))
  apart : ∀ j j' g, j < ps.length → j' < ps.length → j ≠ j' → (vs.getD j undef).ownBlock = some g → (vs.getD j' undef).ownBlock ≠ some g

variable {w w' : World} {base gb : Nat} {V : Value} {ps : List (List Nat)} {vs : List Value}

theorem Parts.len (h : Parts w base gb V ps vs) : vs.length = ps.length := by
  have := h.row.1
  omega

theorem Parts.kept (h : Parts w base gb V ps vs) {row : Option Nat} (hg : w.grownBy w' row) (h1 : V.ownBlock = none ∨ V.ownBlock ≠ row) (h2 : ∀ j, j < ps.length → (vs.getD j undef).ownBlock = none ∨ (vs.getD j undef).ownBlock ≠ row) : Parts w' base gb V ps vs :=
  ⟨h.row.kept hg h1, fun j hj => (h.part j hj).kept hg (h2 j hj), h.apart⟩

theorem Parts.alloc (h : Parts w base gb V ps vs) (o : Obj) : Parts (w.alloc o) base gb V ps vs := by
  refine h.kept (World.grownBy_alloc w o none) ?_ (fun j _ => ?_)
  · cases V.ownBlock with
    | none => exact Or.inl rfl
    | some g => exact Or.inr (by simp)
  · cases (vs.getD j undef).ownBlock with
    | none => exact Or.inl rfl
    | some g => exact Or.inr (by simp)

theorem Parts.mapped (h : Parts w base gb V ps vs) {b n sz : Nat} {f : ByteArray → Option Int} (hm : MapSI w b n f sz) (hg : w.grownBy w' (some b)) : Parts w' base gb V ps vs :=
  h.kept hg (Or.inr (map_row hm h.row)) (fun j hj => Or.inr (map_row hm (h.part j hj)))

theorem getD_append_left {α : Type} {l r : List α} {j : Nat} {d : α} (h : j < l.length) : (l ++ r).getD j d = l.getD j d := by
  simp [List.getD, List.getElem?_append_left h]
theorem getD_append_last {α : Type} {l : List α} {x d : α} : (l ++ [x]).getD l.length d = x := by
  simp [List.getD]

/-- 'parts = append(parts, nil)' -/
theorem Parts.push (h : Parts w base gb V ps vs) {V' : Value} (hr : w'.ownsRow base 25 1 V' (ps.length + 1) (vs ++ [.slice none 0 0])) (hg : w.grownBy w' V.ownBlock) : Parts w' base gb V' (ps ++ [[]]) (vs ++ [.slice none 0 0]) := by
  have hl := h.len
  refine ⟨by simpa using hr, fun j hj => ?_, fun j j' g hj hj' hne hb => ?_⟩
  · by_cases e : j < ps.length
    · rw [getD_append_left (by omega), getD_append_left e]
      refine (h.part j e).kept hg ?_
      by_cases hn : (vs.getD j undef).ownBlock = none
      · exact Or.inl hn
      · right
        intro e2
        cases hb : (vs.getD j undef).ownBlock with
        | none => exact hn hb
        | some g => exact rows_apart (h.part j e) h.row (by decide) hb (by rw [← e2, hb])
    · have e2 : j = ps.length := by simp at hj; omega
      subst e2
      rw [getD_append_last, ← hl, getD_append_last]
      exact World.ownsRow_nil _ _ _ _
  · simp only [List.length_append, List.length_singleton] at hj hj'
    by_cases e : j < ps.length
    · rw [getD_append_left (by omega)] at hb
      by_cases e' : j' < ps.length
      · rw [getD_append_left (by omega)]
        exact h.apart j j' g e e' hne hb
      · have e2 : j' = vs.length := by omega
        subst e2
        rw [getD_append_last]
        simp [Value.ownBlock]
    · have e2 : j = vs.length := by omega
      subst e2
      rw [getD_append_last] at hb
      cases hb

theorem getD_set_same {α : Type} {l : List α} {k : Nat} {x d : α} (h : k < l.length) : (l.set k x).getD k d = x := by
  simp [List.getD, h]
theorem getD_set_other {α : Type} {l : List α} {k j : Nat} {x d : α} (h : k ≠ j) : (l.set k x).getD j d = l.getD j d := by
  simp [List.getD, List.getElem?_set_ne h]

/-- 'parts[k] = append(parts[k], step)' -/
theorem Parts.grow {pb cap : Nat} (h : Parts w base gb (.slice (some ⟨pb, 0, none⟩) ps.length cap) ps vs) {k i g c : Nat} (hk : k < ps.length)
    (hr : w'.ownsRow base 30 4 (.slice (some ⟨g, 0, none⟩) ((ps.getD k []).length + 1) c) ((ps.getD k []).length + 1) (stepsOf gb (ps.getD k []) ++ stepCells gb i)) (hg : w.grownBy w' (vs.getD k undef).ownBlock)
    (hat : (vs.getD k undef).ownBlock = some g ∨ g = w.heap.size) :
    Parts (w'.setCell ⟨pb, k, none⟩ (.slice (some ⟨g, 0, none⟩) ((ps.getD k []).length + 1) c)) base gb (.slice (some ⟨pb, 0, none⟩) ps.length cap) (ps.set k (ps.getD k [] ++ [i])) (vs.set k (.slice (some ⟨g, 0, none⟩) ((ps.getD k []).length + 1) c)) := by
  have hl := h.len
  have hpb := (h.row.lt pb rfl).2
  have hrow : (Value.slice (some ⟨pb, 0, none⟩) ps.length cap).ownBlock = none ∨ (Value.slice (some ⟨pb, 0, none⟩) ps.length cap).ownBlock ≠ (vs.getD k undef).ownBlock :=
    Or.inr fun e => rows_apart h.row (h.part k hk) (by decide) (g := pb) rfl e.symm
  have r1 := (h.row.kept hg hrow).stored k (.slice (some ⟨g, 0, none⟩) ((ps.getD k []).length + 1) c)
  refine ⟨by simpa using r1.1, fun j hj => ?_, fun j j' q hj hj' hne hb => ?_⟩
  · simp only [List.length_set] at hj
    by_cases e : k = j
    · subst e
      rw [getD_set_same (by omega), getD_set_same hk, stepsOf_snoc]
      have : (ps.getD k [] ++ [i]).length = (ps.getD k []).length + 1 := by simp
      rw [this]
      refine ownsRow_setCell_other hr ?_ _
      intro e2
      simp only [Value.ownBlock, Option.some.injEq] at e2
      rcases hat with hat | hat
      · exact rows_apart h.row (h.part k hk) (by decide) (g := pb) rfl (by rw [hat, e2])
      · omega
    · rw [getD_set_other e, getD_set_other e]
      have ho := h.part j hj
      refine ownsRow_setCell_other (ho.kept hg ?_) ?_ _
      · cases hb : (vs.getD j undef).ownBlock with
        | none => exact Or.inl rfl
        | some q =>
          right
          exact fun e2 => h.apart j k q hj hk (Ne.symm e) hb e2.symm
      · exact rows_apart h.row ho (by decide) rfl
  · simp only [List.length_set] at hj hj'
    by_cases e : k = j
    · subst e
      rw [getD_set_same (by omega)] at hb
      rw [getD_set_other hne]
      simp only [Value.ownBlock, Option.some.injEq] at hb
      subst hb
      rcases hat with hat | hat
      · exact h.apart k j' _ hk hj' hne hat
      · intro e2
        have := ((h.part j' hj').lt _ e2).2
        omega
    · rw [getD_set_other e] at hb
      by_cases e' : k = j'
      · subst e'
        rw [getD_set_same (by omega)]
        intro e2
        simp only [Value.ownBlock, Option.some.injEq] at e2
        subst e2
        rcases hat with hat | hat
        · exact h.apart j k _ hj hk hne hb hat
        · have := ((h.part j hj).lt _ hb).2
          omega
      · rw [getD_set_other e']
        exact h.apart j j' q hj hj' hne hb

theorem perm_push {ps : List (List Nat)} {n : Nat} (h : ps.flatten.Perm (List.range n)) : (ps ++ [[]]).flatten.Perm (List.range n) := by simpa using h

theorem perm_set {ps : List (List Nat)} {n k : Nat} (h : ps.flatten.Perm (List.range n)) (hk : k < ps.length) : (ps.set k (ps.getD k [] ++ [n])).flatten.Perm (List.range (n + 1)) := by
  have key : ∀ (ps : List (List Nat)) (k : Nat), k < ps.length → (ps.set k (ps.getD k [] ++ [n])).flatten.Perm (n :: ps.flatten) := by
    intro ps
    induction ps with
    | nil => intro k hk; simp at hk
    | cons p r ih =>
      intro k hk
      cases k with
      | zero =>
        simp only [List.set_cons_zero, List.flatten_cons, List.getD_cons_zero]
        rw [List.append_assoc]
        exact (List.perm_middle (a := n) (l₁ := p) (l₂ := r.flatten))
      | succ k =>
        simp only [List.set_cons_succ, List.flatten_cons, List.getD_cons_succ]
        have := ih k (by simpa using hk)
        exact ((List.Perm.append_left p this).trans (List.perm_middle (a := n) (l₁ := p) (l₂ := r.flatten)))
  rw [List.range_succ]
  refine (key ps k hk).trans ?_
  exact (List.Perm.cons n h).trans (List.perm_append_singleton n (List.range n)).symm
end Go.Proofs.Qxb6602630a
