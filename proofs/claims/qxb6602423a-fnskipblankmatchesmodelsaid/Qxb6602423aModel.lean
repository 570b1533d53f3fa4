/-
  THE WALKS of commentEnd (by induction) and modelSkipBlank.
-/
import Derived.Test.Qxb6602423aRuns
namespace Go.Proofs.Qxb6602423a
open Go.RowKit Go.PlainAid

theorem two_yes {n : Nat} {g : Nat → Int} {a b : Int} {i : Nat} (h1 : i + 1 < n) (h2 : g i = a) (h3 : g (i + 1) = b) : Plain.two n g a b i = true := decide_eq_true ⟨h1, h2, h3⟩
theorem two_no1 {n : Nat} {g : Nat → Int} {a b : Int} {i : Nat} (h : ¬ i + 1 < n) : Plain.two n g a b i = false := decide_eq_false (fun e => h e.1)
theorem two_no2 {n : Nat} {g : Nat → Int} {a b : Int} {i : Nat} (h : ¬ g i = a) : Plain.two n g a b i = false := decide_eq_false (fun e => h e.2.1)
theorem two_no3 {n : Nat} {g : Nat → Int} {a b : Int} {i : Nat} (h : ¬ g (i + 1) = b) : Plain.two n g a b i = false := decide_eq_false (fun e => h e.2.2)

set_option maxRecDepth 100000 in
set_option maxHeartbeats 1000000 in
theorem cend_any (s : ByteArray) (hs : s.size ≤ 1048576) : ∀ (t i : Nat) (w : World), s.size - i ≤ t → i ≤ s.size →
    Calls Try.prog 15 #[.string s, .int .i64 i] w fun e w' => e = .returned (.int .i64 (Plain.bc s.size (bt s) i 1)) ∧ w' = w := by
  intro t
  induction t with
  | zero =>
    intro i w ht hi
    have e : i = s.size := by omega
    subst e
    rw [Plain.bc_end (Nat.le_refl _)]
    go_enter Try.func15, Try.ntmps15
    go_wp2_with fail
    refine wp_loop_rounds 1 ?_
    rw [rounds_succ]
    go_wp2_with fail
    go_ret
    exact ⟨rfl, rfl⟩
  | succ t ih =>
    intro i w ht hi
    have Ih : Hid (∀ (i : Nat) (w : World), s.size - i ≤ t → i ≤ s.size → Calls Try.prog 15 #[.string s, .int .i64 i] w fun e w' => e = .returned (.int .i64 (Plain.bc s.size (bt s) i 1)) ∧ w' = w) := ih
    clear ih
    have hb := get_bt s
    generalize htg : Plain.bc s.size (bt s) i 1 = tg
    have Htg : Hid (Plain.bc s.size (bt s) i 1 = tg) := htg
    clear htg
    go_enter Try.func15, Try.ntmps15
    go_wp2_with fail
    go_loop [1] (fun v => ∃ j : Nat, i ≤ j ∧ j ≤ s.size ∧ v = .int .i64 j ∧ Hid (Plain.bc s.size (bt s) j 1 = tg)) (fun v => s.size - (intOf v).toNat)
    case atStart => exact ⟨i, Nat.le_refl _, hi, rfl, Htg⟩
    case round =>
      obtain ⟨j, hij, hjn, rfl, hj⟩ := hrel
      by_cases hlt : j < s.size
      · by_cases hn : j + 1 < s.size
        · by_cases ha : bt s j = 47
          · by_cases hc : bt s (j + 1) = 42
            · have ht2 := two_yes (n := s.size) (g := bt s) hn ha hc
              have hnest : Plain.bc s.size (bt s) (Plain.bc s.size (bt s) (j + 2) 1) 1 = tg := by
                rw [← hj.out, Plain.bc_open ht2]
                exact (Plain.bc_nest s.size (bt s) (s.size - (j + 2)) (j + 2) 0 (Nat.le_refl _) (by omega)).symm
              have g1 := Plain.bc_ge (g := bt s) (d := 1) (show j + 2 ≤ s.size by omega)
              have g2 := Plain.bc_le (g := bt s) (d := 1) (show j + 2 ≤ s.size by omega)
              have hcall := fun W => Ih.out (j + 2) W (by omega) (by omega)
              rw [show ((j + 2 : Nat) : Int) = (j : Int) + 2 by omega] at hcall
              generalize Plain.bc s.size (bt s) (j + 2) 1 = r at *
              have ha1 : (bt s j == 47) = true := beq_iff_eq.2 ha
              have hc1 : (bt s (j + 1) == 42) = true := beq_iff_eq.2 hc
              have Hn : Hid (Plain.bc s.size (bt s) r 1 = tg) := hnest
              clear ha hc hnest ht2
              go_wp2_with fail
              refine (hcall _).mono ?_
              rintro e w1 ⟨rfl, rfl⟩
              go_wp2_with fail
              exact ⟨⟨r, by omega, g2, rfl, Hn⟩, by simp [intOf]; omega⟩
            · have ho := two_no3 (n := s.size) (g := bt s) (a := 47) (i := j) hc
              have hcl := two_no2 (n := s.size) (g := bt s) (a := 42) (b := 47) (i := j) (by omega)
              have Hn : Hid (Plain.bc s.size (bt s) (j + 1) 1 = tg) := (Plain.bc_other hlt ho hcl).symm.trans hj.out
              have ha1 : (bt s j == 47) = true := beq_iff_eq.2 ha
              have ha2 : (bt s j == 42) = false := beq_eq_false_iff_ne.2 (by omega)
              have hc1 : (bt s (j + 1) == 42) = false := beq_eq_false_iff_ne.2 hc
              clear ha hc ho hcl
              go_wp2_with fail
              exact ⟨⟨j + 1, by omega, by omega, rfl, Hn⟩, by simp [intOf]; omega⟩
          · have ho := two_no2 (n := s.size) (g := bt s) (b := 42) (i := j) ha
            have ha1 : (bt s j == 47) = false := beq_eq_false_iff_ne.2 ha
            by_cases hd : bt s j = 42
            · have hd1 : (bt s j == 42) = true := beq_iff_eq.2 hd
              by_cases hc : bt s (j + 1) = 47
              · have hcl := two_yes (n := s.size) (g := bt s) hn hd hc
                have Hn : Hid (j + 2 = tg) := (Plain.bc_close1 ho hcl).symm.trans hj.out
                have hc1 : (bt s (j + 1) == 47) = true := beq_iff_eq.2 hc
                clear ha hc ho hcl hd
                go_wp2_with fail
                go_ret
                exact ⟨by rw [← Hn.out]; rfl, rfl⟩
              · have hcl := two_no3 (n := s.size) (g := bt s) (a := 42) (i := j) hc
                have Hn : Hid (Plain.bc s.size (bt s) (j + 1) 1 = tg) := (Plain.bc_other hlt ho hcl).symm.trans hj.out
                have hc1 : (bt s (j + 1) == 47) = false := beq_eq_false_iff_ne.2 hc
                clear ha hc ho hcl hd
                go_wp2_with fail
                exact ⟨⟨j + 1, by omega, by omega, rfl, Hn⟩, by simp [intOf]; omega⟩
            · have hcl := two_no2 (n := s.size) (g := bt s) (b := 47) (i := j) hd
              have Hn : Hid (Plain.bc s.size (bt s) (j + 1) 1 = tg) := (Plain.bc_other hlt ho hcl).symm.trans hj.out
              have hd1 : (bt s j == 42) = false := beq_eq_false_iff_ne.2 hd
              clear ha ho hcl hd
              go_wp2_with fail
              exact ⟨⟨j + 1, by omega, by omega, rfl, Hn⟩, by simp [intOf]; omega⟩
        · have Hn : Hid (Plain.bc s.size (bt s) (j + 1) 1 = tg) := (Plain.bc_other hlt (two_no1 hn) (two_no1 hn)).symm.trans hj.out
          go_wp2_with fail
          exact ⟨⟨j + 1, by omega, by omega, rfl, Hn⟩, by simp [intOf]; omega⟩
      · have e : j = s.size := by omega
        have Hn : Hid (s.size = tg) := by
          have := hj.out
          rw [Plain.bc_end (by omega)] at this
          exact e.symm.trans this
        clear e
        go_wp2_with fail
        go_ret
        exact ⟨by rw [← Hn.out]; rfl, rfl⟩
end Go.Proofs.Qxb6602423a
