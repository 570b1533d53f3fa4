/-
  THE WALK of the law FnSkipBlankRunsToAToken.
-/
import Derived.Test.Qxb6602423aZz
namespace Go.Proofs.Qxb6602423a
open Go.RowKit Go.PlainAid

set_option maxHeartbeats 400000 in
theorem blank_any (c : Int) (w : World) : Calls Try.prog 11 #[.int .u8 c] w fun e w' => e = .returned (.bool (Plain.sp c)) ∧ w' = w := by
  by_cases h : c = 32 ∨ c = 9 ∨ c = 10 ∨ c = 11 ∨ c = 12 ∨ c = 13
  · rcases h with rfl | rfl | rfl | rfl | rfl | rfl
    all_goals
      go_enter Try.func11, Try.ntmps11
      go_wp2
      go_ret
      exact ⟨rfl, rfl⟩
  · have e : Plain.sp c = false := by unfold Plain.sp; simp; omega
    rw [e]
    have h1 : (c == 32) = false := beq_eq_false_iff_ne.2 (by omega)
    have h2 : (c == 9) = false := beq_eq_false_iff_ne.2 (by omega)
    have h3 : (c == 10) = false := beq_eq_false_iff_ne.2 (by omega)
    have h4 : (c == 11) = false := beq_eq_false_iff_ne.2 (by omega)
    have h5 : (c == 12) = false := beq_eq_false_iff_ne.2 (by omega)
    have h6 : (c == 13) = false := beq_eq_false_iff_ne.2 (by omega)
    go_enter Try.func11, Try.ntmps11
    go_wp2
    go_ret
    exact ⟨rfl, rfl⟩

set_option maxHeartbeats 400000 in
theorem runs_big (s : ByteArray) (hs : 1048576 < s.size) (ps : Int) (w : World) :
    Calls Try.prog 4 #[.string s, .int .i64 ps] w fun e w' => e = .returned (.bool true) ∧ Below w.heap.size w w' := by
  have h : (1048576 : Int) < (s.size : Int) := by omega
  go_enter Try.func4, Try.ntmps4
  go_wp2
  go_ret
  exact ⟨rfl, Below.refl _ _⟩

set_option maxHeartbeats 400000 in
theorem runs_out (s : ByteArray) (hs : s.size ≤ 1048576) (ps : Int) (hp : ps < 0 ∨ (s.size : Int) < ps) (w : World) :
    Calls Try.prog 4 #[.string s, .int .i64 ps] w fun e w' => e = .returned (.bool true) ∧ Below w.heap.size w w' := by
  have h : ¬ (1048576 : Int) < (s.size : Int) := by omega
  rcases hp with hp | hp
  · go_enter Try.func4, Try.ntmps4
    go_wp2
    go_ret
    exact ⟨rfl, Below.refl _ _⟩
  · have hp' : ¬ ps < 0 := by omega
    go_enter Try.func4, Try.ntmps4
    go_wp2
    go_ret
    exact ⟨rfl, Below.refl _ _⟩

set_option maxRecDepth 100000 in
set_option maxHeartbeats 1000000 in
theorem runs_in (s : ByteArray) (hs : s.size ≤ 1048576) (ps : Nat) (hp : ps ≤ s.size) (w : World) :
    Calls Try.prog 4 #[.string s, .int .i64 ps] w fun e w' => e = .returned (.bool true) ∧ Below w.heap.size w w' := by
  have h : ¬ (1048576 : Int) < (s.size : Int) := by omega
  have hb := get_bt s
  go_enter Try.func4, Try.ntmps4
  go_wp2
  go_loopw [5, 6] (fun v k wr => ∃ p j : Nat, ps + j ≤ p ∧ p ≤ s.size ∧ v = .int .i64 p ∧ k = .int .i64 j ∧ Hid (Below w.heap.size w wr)) (fun v _ _ => s.size - (intOf v).toNat)
  case atStart => exact ⟨ps, 0, by omega, hp, rfl, rfl, Below.refl _ _⟩
  case round =>
    obtain ⟨p, j, hj, hpn, rfl, rfl, hbel⟩ := hrel
    have hz := fun W => zz_any s hs p hpn false 0 false W
    cases hok : Plain.skOk s.size (bt s) p with
    | true =>
      obtain ⟨t1, t2⟩ := Plain.skTo_yes hok
      rw [hok] at hz
      generalize Plain.skTo s.size (bt s) p = t at *
      clear hok
      go_wp2_with fail
      refine (hz _).mono ?_
      rintro e w1 ⟨rfl, hb1⟩
      go_wp2
      refine ⟨⟨t, j + 1, by omega, t2, rfl, rfl, hbel.out.trans (hb1.mono hbel.out.size)⟩, by simp [intOf]; omega⟩
    | false =>
      have ht := Plain.skTo_no hok
      rw [hok, ht] at hz
      clear ht
      by_cases hpe : p = s.size
      · subst hpe
        go_wp2_with fail
        refine (hz _).mono ?_
        rintro e w1 ⟨rfl, hb1⟩
        go_wp2
        go_ret
        exact ⟨rfl, hbel.out.trans (hb1.mono hbel.out.size)⟩
      · have hlt : p < s.size := by omega
        unfold Plain.skOk at hok
        rw [decide_eq_true hlt, Bool.true_and, Bool.or_eq_false_iff, Bool.or_eq_false_iff] at hok
        obtain ⟨⟨o1, o2⟩, o3⟩ := hok
        unfold Plain.two at o2 o3
        have o2 := of_decide_eq_false o2
        have o3 := of_decide_eq_false o3
        have hpe' : ((p : Int) == (s.size : Int)) = false := beq_eq_false_iff_ne.2 (by omega)
        have O2 : Hid (¬ (p + 1 < s.size ∧ bt s p = 45 ∧ bt s (p + 1) = 45)) := o2
        have O3 : Hid (¬ (p + 1 < s.size ∧ bt s p = 47 ∧ bt s (p + 1) = 42)) := o3
        clear o2 o3
        go_wp2_with fail
        refine (hz _).mono ?_
        rintro e w1 ⟨rfl, hb1⟩
        go_wp2_with fail
        refine (blank_any _ _).mono ?_
        rintro e w2 ⟨rfl, rfl⟩
        rw [o1]
        by_cases hn : p + 1 < s.size
        · by_cases ha : bt s p = 45
          · have ha1 : (bt s p == 45) = true := beq_iff_eq.2 ha
            have ha2 : (bt s p == 47) = false := beq_eq_false_iff_ne.2 (by omega)
            have hc : (bt s (p + 1) == 45) = false := beq_eq_false_iff_ne.2 (fun e => O2.out ⟨hn, ha, e⟩)
            clear ha
            go_wp2
            go_ret
            exact ⟨rfl, hbel.out.trans (hb1.mono hbel.out.size)⟩
          · have ha1 : (bt s p == 45) = false := beq_eq_false_iff_ne.2 ha
            by_cases hd : bt s p = 47
            · have hd1 : (bt s p == 47) = true := beq_iff_eq.2 hd
              have hc : (bt s (p + 1) == 42) = false := beq_eq_false_iff_ne.2 (fun e => O3.out ⟨hn, hd, e⟩)
              clear ha hd
              go_wp2
              go_ret
              exact ⟨rfl, hbel.out.trans (hb1.mono hbel.out.size)⟩
            · have hd1 : (bt s p == 47) = false := beq_eq_false_iff_ne.2 hd
              clear ha hd
              go_wp2
              go_ret
              exact ⟨rfl, hbel.out.trans (hb1.mono hbel.out.size)⟩
        · go_wp2
          go_ret
          exact ⟨rfl, hbel.out.trans (hb1.mono hbel.out.size)⟩
end Go.Proofs.Qxb6602423a
