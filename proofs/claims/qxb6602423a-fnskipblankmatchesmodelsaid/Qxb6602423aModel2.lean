/-
  THE WALK of modelSkipBlank.
-/
import Derived.Test.Qxb6602423aModel
namespace Go.Proofs.Qxb6602423a
open Go.RowKit Go.PlainAid

set_option maxRecDepth 100000 in
set_option maxHeartbeats 1000000 in
theorem model_end (s : ByteArray) (w : World) :
    Calls Try.prog 8 #[.string s, .int .i64 s.size] w fun e w' => e = .returned (.tuple #[.bool false, .int .i64 s.size]) ∧ w' = w := by
  go_enter Try.func8, Try.ntmps8
  go_wp2_with fail
  go_ret2
  exact ⟨rfl, rfl⟩

set_option maxRecDepth 100000 in
set_option maxHeartbeats 1000000 in
theorem model_space (s : ByteArray) (hs : s.size ≤ 1048576) (p : Nat) (hp : p < s.size) (h1 : Plain.sp (bt s p) = true) (w : World) :
    Calls Try.prog 8 #[.string s, .int .i64 p] w fun e w' => e = .returned (.tuple #[.bool true, .int .i64 (Plain.spEnd s.size (bt s) (p + 1))]) ∧ w' = w := by
  have hb := get_bt s
  go_enter Try.func8, Try.ntmps8
  go_wp2_with fail
  refine (blank_any _ _).mono ?_
  rintro e w1 ⟨rfl, rfl⟩
  rw [h1]
  go_wp2_with fail
  go_loop [7] (fun v => ∃ j : Nat, p + 1 ≤ j ∧ j ≤ s.size ∧ v = .int .i64 j ∧ Hid (∀ k, p + 1 ≤ k → k < j → Plain.pSp s.size (bt s) k = true)) (fun v => s.size - (intOf v).toNat)
  case atStart =>
    refine ⟨p + 1, Nat.le_refl _, by omega, rfl, ?_⟩
    intro k h1 h2
    omega
  case round =>
    obtain ⟨j, hj1, hjn, rfl, hall⟩ := hrel
    by_cases hlt : j < s.size
    · cases hsp : Plain.sp (bt s j) with
      | true =>
        have Hsp : Hid (Plain.sp (bt s j) = true) := hsp
        clear hsp
        go_wp2_with fail
        refine (blank_any _ _).mono ?_
        rintro e w2 ⟨rfl, rfl⟩
        rw [Hsp.out]
        go_wp2_with fail
        refine ⟨⟨j + 1, by omega, by omega, rfl, ?_⟩, by simp [intOf]; omega⟩
        intro k k1 k2
        by_cases hk : k = j
        · subst hk
          unfold Plain.pSp
          rw [Hsp.out, decide_eq_true hlt]
          rfl
        · exact hall k k1 (by omega)
      | false =>
        have Hsp : Hid (Plain.sp (bt s j) = false) := hsp
        clear hsp
        have he : Plain.spEnd s.size (bt s) (p + 1) = j := Plain.spEnd_at hj1 hall (by unfold Plain.pSp; rw [Hsp.out, Bool.and_false])
        have He : Hid (Plain.spEnd s.size (bt s) (p + 1) = j) := he
        clear he hall
        go_wp2_with fail
        refine (blank_any _ _).mono ?_
        rintro e w2 ⟨rfl, rfl⟩
        rw [Hsp.out]
        go_wp2_with fail
        go_ret2
        exact ⟨by rw [He.out]; rfl, rfl⟩
    · have he : Plain.spEnd s.size (bt s) (p + 1) = j := Plain.spEnd_at hj1 hall (by unfold Plain.pSp; rw [decide_eq_false hlt, Bool.false_and])
      have He : Hid (Plain.spEnd s.size (bt s) (p + 1) = j) := he
      clear he hall
      go_wp2_with fail
      go_ret2
      exact ⟨by rw [He.out]; rfl, rfl⟩

set_option maxRecDepth 100000 in
set_option maxHeartbeats 1000000 in
theorem model_line (s : ByteArray) (hs : s.size ≤ 1048576) (p : Nat) (h1 : Plain.sp (bt s p) = false) (h2 : Plain.two s.size (bt s) 45 45 p = true) (w : World) :
    Calls Try.prog 8 #[.string s, .int .i64 p] w fun e w' => e = .returned (.tuple #[.bool true, .int .i64 (Plain.lnNext s.size (bt s) (p + 2))]) ∧ w' = w := by
  have hb := get_bt s
  have hp := Plain.two_lt h2
  unfold Plain.two at h2
  obtain ⟨_, d1, d2⟩ := of_decide_eq_true h2
  have e1 : (bt s p == 45) = true := beq_iff_eq.2 d1
  have e2 : (bt s (p + 1) == 45) = true := beq_iff_eq.2 d2
  clear h2 d1 d2
  go_enter Try.func8, Try.ntmps8
  go_wp2_with fail
  refine (blank_any _ _).mono ?_
  rintro e w1 ⟨rfl, rfl⟩
  rw [h1]
  go_wp2_with fail
  go_loop [8] (fun v => ∃ j : Nat, p + 2 ≤ j ∧ j ≤ s.size ∧ v = .int .i64 j ∧ Hid (∀ k, p + 2 ≤ k → k < j → Plain.pLn s.size (bt s) k = true)) (fun v => s.size - (intOf v).toNat)
  case atStart =>
    refine ⟨p + 2, Nat.le_refl _, by omega, rfl, ?_⟩
    intro k h1 h2
    omega
  case round =>
    obtain ⟨j, hj1, hjn, rfl, hall⟩ := hrel
    by_cases hlt : j < s.size
    · by_cases hc : bt s j = 10
      · have he : Plain.lnEnd s.size (bt s) (p + 2) = j := Plain.lnEnd_at hj1 hall (by unfold Plain.pLn; rw [decide_eq_true hlt, Bool.true_and]; exact decide_eq_false (by simpa using hc))
        have He : Hid (Plain.lnNext s.size (bt s) (p + 2) = j + 1) := by
          show Plain.lnNext s.size (bt s) (p + 2) = j + 1
          unfold Plain.lnNext
          rw [he, if_neg (by omega)]
        have hc1 : (bt s j != 10) = false := by rw [hc]; rfl
        have hje : ((j : Int) == (s.size : Int)) = false := beq_eq_false_iff_ne.2 (by omega)
        clear he hall hc
        go_wp2_with fail
        go_ret2
        exact ⟨by rw [He.out]; rfl, rfl⟩
      · have hc1 : (bt s j != 10) = true := bne_iff_ne.2 hc
        have Hc : Hid (¬ bt s j = 10) := hc
        clear hc
        go_wp2_with fail
        refine ⟨⟨j + 1, by omega, by omega, rfl, ?_⟩, by simp [intOf]; omega⟩
        intro k k1 k2
        by_cases hk : k = j
        · subst hk
          unfold Plain.pLn
          rw [decide_eq_true hlt, Bool.true_and]
          exact decide_eq_true Hc.out
        · exact hall k k1 (by omega)
    · have he : Plain.lnEnd s.size (bt s) (p + 2) = j := Plain.lnEnd_at hj1 hall (by unfold Plain.pLn; rw [decide_eq_false hlt, Bool.false_and])
      have hjs : j = s.size := by omega
      have He : Hid (Plain.lnNext s.size (bt s) (p + 2) = j) := by
        show Plain.lnNext s.size (bt s) (p + 2) = j
        unfold Plain.lnNext
        rw [he, if_pos hjs, hjs]
      have hje : ((j : Int) == (s.size : Int)) = true := beq_iff_eq.2 (by omega)
      clear he hall hjs
      go_wp2_with fail
      go_ret2
      exact ⟨by rw [He.out]; rfl, rfl⟩

set_option maxRecDepth 100000 in
set_option maxHeartbeats 1000000 in
theorem model_block (s : ByteArray) (hs : s.size ≤ 1048576) (p : Nat) (h1 : Plain.sp (bt s p) = false) (h3 : Plain.two s.size (bt s) 47 42 p = true) (w : World) :
    Calls Try.prog 8 #[.string s, .int .i64 p] w fun e w' => e = .returned (.tuple #[.bool true, .int .i64 (Plain.bc s.size (bt s) (p + 2) 1)]) ∧ w' = w := by
  have hb := get_bt s
  have hp := Plain.two_lt h3
  have hcall := fun W => cend_any s hs (s.size - (p + 2)) (p + 2) W (Nat.le_refl _) (by omega)
  rw [show ((p + 2 : Nat) : Int) = (p : Int) + 2 by omega] at hcall
  unfold Plain.two at h3
  obtain ⟨_, d1, d2⟩ := of_decide_eq_true h3
  have e0 : (bt s p == 45) = false := beq_eq_false_iff_ne.2 (by omega)
  have e1 : (bt s p == 47) = true := beq_iff_eq.2 d1
  have e2 : (bt s (p + 1) == 42) = true := beq_iff_eq.2 d2
  clear h3 d1 d2
  generalize Plain.bc s.size (bt s) (p + 2) 1 = r at *
  go_enter Try.func8, Try.ntmps8
  go_wp2_with fail
  refine (blank_any _ _).mono ?_
  rintro e w1 ⟨rfl, rfl⟩
  rw [h1]
  go_wp2_with fail
  refine (hcall _).mono ?_
  rintro e w2 ⟨rfl, rfl⟩
  go_wp2_with fail
  go_ret2
  exact ⟨rfl, rfl⟩

set_option maxRecDepth 100000 in
set_option maxHeartbeats 1000000 in
theorem model_other (s : ByteArray) (hs : s.size ≤ 1048576) (p : Nat) (hp : p < s.size) (h1 : Plain.sp (bt s p) = false) (h2 : Plain.two s.size (bt s) 45 45 p = false) (h3 : Plain.two s.size (bt s) 47 42 p = false) (w : World) :
    Calls Try.prog 8 #[.string s, .int .i64 p] w fun e w' => e = .returned (.tuple #[.bool false, .int .i64 p]) ∧ w' = w := by
  have hb := get_bt s
  unfold Plain.two at h2 h3
  replace h2 := of_decide_eq_false h2
  replace h3 := of_decide_eq_false h3
  have H2 : Hid (¬ (p + 1 < s.size ∧ bt s p = 45 ∧ bt s (p + 1) = 45)) := h2
  have H3 : Hid (¬ (p + 1 < s.size ∧ bt s p = 47 ∧ bt s (p + 1) = 42)) := h3
  clear h2 h3
  by_cases hn : p + 1 < s.size
  · by_cases ha : bt s p = 45
    · have e1 : (bt s p == 45) = true := beq_iff_eq.2 ha
      have e2 : (bt s (p + 1) == 45) = false := beq_eq_false_iff_ne.2 (fun e => H2.out ⟨hn, ha, e⟩)
      have e3 : (bt s p == 47) = false := beq_eq_false_iff_ne.2 (by omega)
      clear ha
      go_enter Try.func8, Try.ntmps8
      go_wp2_with fail
      refine (blank_any _ _).mono ?_
      rintro e w1 ⟨rfl, rfl⟩
      rw [h1]
      go_wp2_with fail
      go_ret2
      exact ⟨rfl, rfl⟩
    · have e1 : (bt s p == 45) = false := beq_eq_false_iff_ne.2 ha
      by_cases hc : bt s p = 47
      · have e3 : (bt s p == 47) = true := beq_iff_eq.2 hc
        have e2 : (bt s (p + 1) == 42) = false := beq_eq_false_iff_ne.2 (fun e => H3.out ⟨hn, hc, e⟩)
        clear ha hc
        go_enter Try.func8, Try.ntmps8
        go_wp2_with fail
        refine (blank_any _ _).mono ?_
        rintro e w1 ⟨rfl, rfl⟩
        rw [h1]
        go_wp2_with fail
        go_ret2
        exact ⟨rfl, rfl⟩
      · have e3 : (bt s p == 47) = false := beq_eq_false_iff_ne.2 hc
        clear ha hc
        go_enter Try.func8, Try.ntmps8
        go_wp2_with fail
        refine (blank_any _ _).mono ?_
        rintro e w1 ⟨rfl, rfl⟩
        rw [h1]
        go_wp2_with fail
        go_ret2
        exact ⟨rfl, rfl⟩
  · go_enter Try.func8, Try.ntmps8
    go_wp2_with fail
    refine (blank_any _ _).mono ?_
    rintro e w1 ⟨rfl, rfl⟩
    rw [h1]
    go_wp2_with fail
    go_ret2
    exact ⟨rfl, rfl⟩

/-- modelSkipBlank AT EVERY PLACE. -/
theorem model_any (s : ByteArray) (hs : s.size ≤ 1048576) (p : Nat) (hp : p ≤ s.size) (w : World) :
    Calls Try.prog 8 #[.string s, .int .i64 p] w fun e w' => e = .returned (.tuple #[.bool (Plain.skOk s.size (bt s) p), .int .i64 (Plain.skTo s.size (bt s) p)]) ∧ w' = w := by
  unfold Plain.skOk Plain.skTo
  by_cases h0 : s.size ≤ p
  · have e : p = s.size := by omega
    subst e
    rw [if_pos h0, decide_eq_false (by omega), Bool.false_and]
    exact model_end s w
  · have hlt : p < s.size := by omega
    rw [if_neg h0, decide_eq_true hlt, Bool.true_and]
    cases h1 : Plain.sp (bt s p) with
    | true =>
      rw [if_pos rfl, Bool.true_or, Bool.true_or]
      exact model_space s hs p hlt h1 w
    | false =>
      rw [if_neg (by decide), Bool.false_or]
      cases h2 : Plain.two s.size (bt s) 45 45 p with
      | true =>
        rw [if_pos rfl, Bool.true_or]
        exact model_line s hs p h1 h2 w
      | false =>
        rw [if_neg (by decide), Bool.false_or]
        cases h3 : Plain.two s.size (bt s) 47 42 p with
        | true =>
          rw [if_pos rfl]
          exact model_block s hs p h1 h3 w
        | false =>
          rw [if_neg (by decide)]
          exact model_other s hs p hlt h1 h2 h3 w
end Go.Proofs.Qxb6602423a
