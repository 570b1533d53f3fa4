/-
  THE WALK of skipBlank.
-/
import Derived.Test.Qxb6602423aBlock
namespace Go.Proofs.Qxb6602423a
open Go.RowKit Go.PlainAid

set_option maxHeartbeats 400000 in
theorem space_any (c : Int) (w : World) : Calls Try.prog 18 #[.int .u8 c] w fun e w' => e = .returned (.bool (Plain.sp c)) ∧ w' = w := by
  by_cases h1 : c = 32
  · subst h1
    go_enter Try.func18, Try.ntmps18
    go_wp2
    go_ret
    exact ⟨rfl, rfl⟩
  · have h1' : (c == 32) = false := beq_eq_false_iff_ne.2 h1
    by_cases h2 : 9 ≤ c
    · by_cases h3 : c ≤ 13
      · have e : Plain.sp c = true := by unfold Plain.sp; simp; omega
        rw [e]
        go_enter Try.func18, Try.ntmps18
        go_wp2
        go_ret
        exact ⟨rfl, rfl⟩
      · have e : Plain.sp c = false := by unfold Plain.sp; simp; omega
        rw [e]
        go_enter Try.func18, Try.ntmps18
        go_wp2
        go_ret
        exact ⟨rfl, rfl⟩
    · have e : Plain.sp c = false := by unfold Plain.sp; simp; omega
      rw [e]
      go_enter Try.func18, Try.ntmps18
      go_wp2
      go_ret
      exact ⟨rfl, rfl⟩

theorem get_ext (s : ByteArray) (p : Nat) : ∀ (j : Nat) (h : j < (s.extract p s.size).size), (((s.extract p s.size)[j]'h).toNat : Int) = bt s (p + j) := fun j h => by
  have hj : p + j < s.size := by simp at h; omega
  rw [← get_bt s (p + j) hj]
  congr 2
  exact ByteArray.getElem_extract h
theorem ext_empty (s : ByteArray) (p : Nat) (h : p < s.size) : (s.extract p s.size).toList.isEmpty = false := by
  rw [Lib.extract_toList]
  cases hl : List.take (s.size - p) (List.drop p s.data.toList) with
  | nil =>
    have := congrArg List.length hl
    simp at this
    omega
  | cons a l => rfl

set_option maxHeartbeats 400000 in
theorem skip_end (s : ByteArray) (b : Nat) (w : World)
    (c0 : w.cell? ⟨b, 0, none⟩ = some (.string s)) (c1 : w.cell? ⟨b, 1, none⟩ = some (.int .i64 s.size)) :
    Calls Try.prog 16 #[.pointer (some ⟨b, 0, none⟩)] w fun e w' => e = .returned (.bool false) ∧ Moved w b s.size w' := by
  have Hm : Hid (Moved w b s.size w) := Moved.start c1
  go_enter Try.func16, Try.ntmps16
  go_wp2
  go_quiet (fail)
  go_wp2
  go_ret
  exact ⟨rfl, Hm.out.drewN _⟩

set_option maxHeartbeats 400000 in
theorem skip_space (s : ByteArray) (hs : s.size ≤ 1048576) (p : Nat) (hp : p < s.size) (h1 : Plain.sp (bt s p) = true) (b : Nat) (w : World)
    (c0 : w.cell? ⟨b, 0, none⟩ = some (.string s)) (c1 : w.cell? ⟨b, 1, none⟩ = some (.int .i64 p)) (cf : w.frozen? ⟨b, 1, none⟩ = false) :
    Calls Try.prog 16 #[.pointer (some ⟨b, 0, none⟩)] w fun e w' => e = .returned (.bool true) ∧ Moved w b (Plain.spEnd s.size (bt s) (p + 1)) w' := by
  have Hm : Hid (Moved w b p w) := Moved.start c1
  have hb := get_ext s p
  have hne := ext_empty s p hp
  go_enter Try.func16, Try.ntmps16
  go_wp2
  go_quiet (fail)
  go_wp2_with fail
  refine (space_any _ _).mono ?_
  rintro e w1 ⟨rfl, rfl⟩
  rw [h1]
  go_wp2_with fail
  go_loop [4] (fun v => ∃ j : Nat, 1 ≤ j ∧ p + j ≤ s.size ∧ v = .int .i64 j ∧ Hid (∀ k, p + 1 ≤ k → k < p + j → Plain.pSp s.size (bt s) k = true)) (fun v => s.size - (intOf v).toNat)
  case atStart =>
    refine ⟨1, by omega, by omega, rfl, ?_⟩
    intro k h1 h2
    omega
  case round =>
    obtain ⟨j, hj1, hjn, rfl, hall⟩ := hrel
    by_cases hlt : p + j < s.size
    · cases hsp : Plain.sp (bt s (p + j)) with
      | true =>
        have Hsp : Hid (Plain.sp (bt s (p + j)) = true) := hsp
        clear hsp
        go_wp2_with fail
        refine (space_any _ _).mono ?_
        rintro e w1 ⟨rfl, rfl⟩
        rw [Hsp.out]
        go_wp2
        refine ⟨⟨j + 1, by omega, by omega, rfl, ?_⟩, by simp [intOf]; omega⟩
        intro k h1 h2
        by_cases hk : k = p + j
        · subst hk
          unfold Plain.pSp
          rw [Hsp.out, decide_eq_true hlt]
          rfl
        · exact hall k h1 (by omega)
      | false =>
        have Hsp : Hid (Plain.sp (bt s (p + j)) = false) := hsp
        clear hsp
        have he : Plain.spEnd s.size (bt s) (p + 1) = p + j := Plain.spEnd_at (by omega) hall (by unfold Plain.pSp; rw [Hsp.out, Bool.and_false])
        have He : Hid (Plain.spEnd s.size (bt s) (p + 1) = p + j) := he
        clear he hall
        go_wp2_with fail
        refine (space_any _ _).mono ?_
        rintro e w1 ⟨rfl, rfl⟩
        rw [Hsp.out]
        go_wp2
        go_ret
        refine ⟨rfl, ?_⟩
        rw [He.out]
        exact (Hm.out.drewN _).to (p + j) _ (by omega)
    · have he : Plain.spEnd s.size (bt s) (p + 1) = p + j := Plain.spEnd_at (by omega) hall (by unfold Plain.pSp; rw [decide_eq_false hlt, Bool.false_and])
      have He : Hid (Plain.spEnd s.size (bt s) (p + 1) = p + j) := he
      clear he hall
      go_wp2
      go_ret
      refine ⟨rfl, ?_⟩
      rw [He.out]
      exact (Hm.out.drewN _).to (p + j) _ (by omega)

set_option maxHeartbeats 400000 in
theorem skip_other (s : ByteArray) (p : Nat) (hp : p < s.size) (h1 : Plain.sp (bt s p) = false) (h2 : Plain.two s.size (bt s) 45 45 p = false) (h3 : Plain.two s.size (bt s) 47 42 p = false) (b : Nat) (w : World)
    (c0 : w.cell? ⟨b, 0, none⟩ = some (.string s)) (c1 : w.cell? ⟨b, 1, none⟩ = some (.int .i64 p)) :
    Calls Try.prog 16 #[.pointer (some ⟨b, 0, none⟩)] w fun e w' => e = .returned (.bool false) ∧ Moved w b p w' := by
  have Hm : Hid (Moved w b p w) := Moved.start c1
  have hb := get_ext s p
  have hne := ext_empty s p hp
  go_enter Try.func16, Try.ntmps16
  go_wp2
  go_quiet (fail)
  go_wp2_with fail
  refine (space_any _ _).mono ?_
  rintro e w1 ⟨rfl, rfl⟩
  rw [h1]
  go_wp2_with fail
  refine (dash_at s p _).mono ?_
  rintro e w1 ⟨rfl, rfl⟩
  rw [h2]
  go_wp2_with fail
  refine (open_at s p _).mono ?_
  rintro e w1 ⟨rfl, rfl⟩
  rw [h3]
  go_wp2
  go_ret
  exact ⟨rfl, Hm.out.drewN _⟩

set_option maxHeartbeats 400000 in
theorem skip_block (s : ByteArray) (hs : s.size ≤ 1048576) (p : Nat) (h1 : Plain.sp (bt s p) = false) (h2 : Plain.two s.size (bt s) 45 45 p = false) (h3 : Plain.two s.size (bt s) 47 42 p = true) (b : Nat) (w : World)
    (c0 : w.cell? ⟨b, 0, none⟩ = some (.string s)) (c1 : w.cell? ⟨b, 1, none⟩ = some (.int .i64 p)) (cf : w.frozen? ⟨b, 1, none⟩ = false) :
    Calls Try.prog 16 #[.pointer (some ⟨b, 0, none⟩)] w fun e w' => e = .returned (.bool true) ∧ Moved w b (Plain.bc s.size (bt s) (p + 2) 1) w' := by
  have hp1 := Plain.two_lt h3
  have hp : p < s.size := by omega
  have hb := get_ext s p
  have hne := ext_empty s p hp
  have H3 : Hid (Plain.two s.size (bt s) 47 42 p = true) := h3
  clear h3
  go_enter Try.func16, Try.ntmps16
  go_wp2
  go_quiet (fail)
  go_wp2_with fail
  refine (space_any _ _).mono ?_
  rintro e w1 ⟨rfl, rfl⟩
  rw [h1]
  go_wp2_with fail
  refine (dash_at s p _).mono ?_
  rintro e w1 ⟨rfl, rfl⟩
  rw [h2]
  go_wp2_with fail
  refine (open_at s p _).mono ?_
  rintro e w1 ⟨rfl, rfl⟩
  rw [H3.out]
  go_wp2_with fail
  refine (block_any s hs p H3.out b _ (by exact c0) (by exact c1) (by exact cf)).mono ?_
  rintro e w1 ⟨rfl, hM⟩
  go_wp2
  go_ret
  refine ⟨rfl, ?_⟩
  exact hM.undrew

set_option maxHeartbeats 400000 in
theorem skip_line (s : ByteArray) (hs : s.size ≤ 1048576) (p : Nat) (h1 : Plain.sp (bt s p) = false) (h2 : Plain.two s.size (bt s) 45 45 p = true) (b : Nat) (w : World)
    (c0 : w.cell? ⟨b, 0, none⟩ = some (.string s)) (c1 : w.cell? ⟨b, 1, none⟩ = some (.int .i64 p)) (cf : w.frozen? ⟨b, 1, none⟩ = false) :
    Calls Try.prog 16 #[.pointer (some ⟨b, 0, none⟩)] w fun e w' => e = .returned (.bool true) ∧ Moved w b (Plain.lnNext s.size (bt s) (p + 2)) w' := by
  have Hm : Hid (Moved w b p w) := Moved.start c1
  have hp1 := Plain.two_lt h2
  have hp : p < s.size := by omega
  have hb := get_ext s p
  have hne := ext_empty s p hp
  have H2 : Hid (Plain.two s.size (bt s) 45 45 p = true) := h2
  clear h2
  rcases line_cases s p H2.out with ⟨hi, hl⟩ | ⟨j, hi, hj, hl⟩
  · have Hi := fun w => Try.strings_IndexByte (s.extract p s.size) 10 w
    rw [hi] at Hi
    have Hl : Hid (Plain.lnNext s.size (bt s) (p + 2) = s.size) := hl
    clear hi hl
    go_enter Try.func16, Try.ntmps16
    go_wp2
    go_quiet (fail)
    go_wp2_with fail
    refine (space_any _ _).mono ?_
    rintro e w1 ⟨rfl, rfl⟩
    rw [h1]
    go_wp2_with fail
    refine (dash_at s p _).mono ?_
    rintro e w1 ⟨rfl, rfl⟩
    rw [H2.out]
    go_wp2_with fail
    refine (Hi _).mono ?_
    rintro e w1 ⟨rfl, rfl⟩
    go_wp2
    go_ret
    refine ⟨rfl, ?_⟩
    rw [Hl.out]
    exact (Hm.out.drewN _).to s.size _ rfl
  · have Hi := fun w => Try.strings_IndexByte (s.extract p s.size) 10 w
    rw [hi] at Hi
    have Hl : Hid (Plain.lnNext s.size (bt s) (p + 2) = p + j + 1) := hl
    clear hi hl
    go_enter Try.func16, Try.ntmps16
    go_wp2
    go_quiet (fail)
    go_wp2_with fail
    refine (space_any _ _).mono ?_
    rintro e w1 ⟨rfl, rfl⟩
    rw [h1]
    go_wp2_with fail
    refine (dash_at s p _).mono ?_
    rintro e w1 ⟨rfl, rfl⟩
    rw [H2.out]
    go_wp2_with fail
    refine (Hi _).mono ?_
    rintro e w1 ⟨rfl, rfl⟩
    go_wp2
    go_ret
    refine ⟨rfl, ?_⟩
    rw [Hl.out]
    exact (Hm.out.drewN _).to (p + j + 1) _ (by omega)

/-- skipBlank AT EVERY PLACE. -/
theorem skip_any (s : ByteArray) (hs : s.size ≤ 1048576) (p : Nat) (hp : p ≤ s.size) (b : Nat) (w : World)
    (c0 : w.cell? ⟨b, 0, none⟩ = some (.string s)) (c1 : w.cell? ⟨b, 1, none⟩ = some (.int .i64 p)) (cf : w.frozen? ⟨b, 1, none⟩ = false) :
    Calls Try.prog 16 #[.pointer (some ⟨b, 0, none⟩)] w fun e w' => e = .returned (.bool (Plain.skOk s.size (bt s) p)) ∧ Moved w b (Plain.skTo s.size (bt s) p) w' := by
  unfold Plain.skOk Plain.skTo
  by_cases h0 : s.size ≤ p
  · have e : p = s.size := by omega
    subst e
    rw [if_pos h0, decide_eq_false (by omega), Bool.false_and]
    exact skip_end s b w c0 c1
  · have hlt : p < s.size := by omega
    rw [if_neg h0, decide_eq_true hlt, Bool.true_and]
    cases h1 : Plain.sp (bt s p) with
    | true =>
      rw [if_pos rfl, Bool.true_or, Bool.true_or]
      exact skip_space s hs p hlt h1 b w c0 c1 cf
    | false =>
      rw [if_neg (by decide), Bool.false_or]
      cases h2 : Plain.two s.size (bt s) 45 45 p with
      | true =>
        rw [if_pos rfl, Bool.true_or]
        exact skip_line s hs p h1 h2 b w c0 c1 cf
      | false =>
        rw [if_neg (by decide), Bool.false_or]
        cases h3 : Plain.two s.size (bt s) 47 42 p with
        | true =>
          rw [if_pos rfl]
          exact skip_block s hs p h1 h2 h3 b w c0 c1 cf
        | false =>
          rw [if_neg (by decide)]
          exact skip_other s p hlt h1 h2 h3 b w c0 c1
end Go.Proofs.Qxb6602423a
