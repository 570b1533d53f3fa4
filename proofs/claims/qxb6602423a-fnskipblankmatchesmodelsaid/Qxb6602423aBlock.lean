/-
  THE WALK of blockComment.
-/
import Derived.Test.Qxb6602423aBase
namespace Go.Proofs.Qxb6602423a
open Go.RowKit Go.PlainAid

theorem pos_less {w wr w' : World} {b n p q : Nat} (d1 : wr.cell? ⟨b, 1, none⟩ = some (.int .i64 p)) (h : Moved w b q w') (hpq : p < q) (hq : q ≤ n) :
    n - (intOf ((w'.cell? ⟨b, 1, none⟩).getD undef)).toNat < n - (intOf ((wr.cell? ⟨b, 1, none⟩).getD undef)).toNat := by
  rw [h.here, d1]
  simp [intOf]
  omega

set_option maxHeartbeats 400000 in
theorem block_any (s : ByteArray) (hs : s.size ≤ 1048576) (p0 : Nat) (hp : Plain.two s.size (bt s) 47 42 p0 = true) (b : Nat) (w : World)
    (c0 : w.cell? ⟨b, 0, none⟩ = some (.string s)) (c1 : w.cell? ⟨b, 1, none⟩ = some (.int .i64 p0)) (cf : w.frozen? ⟨b, 1, none⟩ = false) :
    Calls Try.prog 21 #[.pointer (some ⟨b, 0, none⟩)] w fun e w' => e = .returned (.tuple #[]) ∧ Moved w b (Plain.bc s.size (bt s) (p0 + 2) 1) w' := by
  have hp0 := Plain.two_lt hp
  have Hp : Hid (Plain.two s.size (bt s) 47 42 p0 = true) := hp
  clear hp
  generalize htg : Plain.bc s.size (bt s) (p0 + 2) 1 = tg
  have Htg : Hid (Plain.bc s.size (bt s) (p0 + 2) 1 = tg) := htg
  clear htg
  go_enter Try.func21, Try.ntmps21
  go_wp2
  go_loopw [2] (fun d wr => ∃ p k : Nat, p ≤ s.size ∧ k ≤ p ∧ d = .int .i64 k ∧ Moved w b p wr ∧ Hid ((k = 0 ∧ p = p0) ∨ (1 ≤ k ∧ Plain.bc s.size (bt s) p k = tg))) (fun _ wr => s.size - (intOf ((wr.cell? ⟨b, 1, none⟩).getD undef)).toNat)
  case atStart =>
    exact ⟨p0, 0, by omega, by omega, rfl, Moved.start c1, Or.inl ⟨rfl, rfl⟩⟩
  case round =>
    obtain ⟨p, k, hpn, hkp, rfl, hm, hk⟩ := hrel
    have d0 : wr.cell? ⟨b, 0, none⟩ = some (.string s) := by rw [hm.cell _ (by simp)]; exact c0
    have d1 := hm.here
    have df : wr.frozen? ⟨b, 1, none⟩ = false := by rw [hm.frozen]; exact cf
    have Hm : Hid (Moved w b p wr) := hm
    clear hm c0 c1 cf
    by_cases hlt : p < s.size
    · go_wp2
      go_quiet (fail)
      go_wp2
      go_quiet (fail)
      go_wp2_with fail
      refine (open_at s p _).mono ?_
      rintro e w1 ⟨rfl, rfl⟩
      cases ho : Plain.two s.size (bt s) 47 42 p with
      | true =>
        have h2 := Plain.two_lt ho
        have Ho : Hid (Plain.two s.size (bt s) 47 42 p = true) := ho
        clear ho
        go_wp2
        have M := fun j => (Hm.out.drewN j).to (p + 2) ((p : Int) + 2) (by omega)
        refine ⟨⟨p + 2, k + 1, by omega, by omega, rfl, M _, Or.inr ⟨by omega, ?_⟩⟩, pos_less d1 (M _) (by omega) (by omega)⟩
        rcases hk.out with ⟨rfl, rfl⟩ | ⟨_, h1⟩
        · exact Htg.out
        · rw [← h1, Plain.bc_open Ho.out]
      | false =>
        have Ho : Hid (Plain.two s.size (bt s) 47 42 p = false) := ho
        clear ho
        go_wp2_with fail
        refine (close_at s p _).mono ?_
        rintro e w1 ⟨rfl, rfl⟩
        cases hc : Plain.two s.size (bt s) 42 47 p with
        | true =>
          have h2 := Plain.two_lt hc
          have Hc : Hid (Plain.two s.size (bt s) 42 47 p = true) := hc
          clear hc
          have hk1 : 1 ≤ k := by
            rcases hk.out with ⟨_, rfl⟩ | ⟨h1, _⟩
            · have := Hp.out; rw [Ho.out] at this; cases this
            · exact h1
          by_cases hk2 : k = 1
          · subst hk2
            have e : Plain.bc s.size (bt s) p 1 = tg := by
              rcases hk.out with ⟨h1, _⟩ | ⟨_, h1⟩
              · omega
              · exact h1
            rw [Plain.bc_close1 Ho.out Hc.out] at e
            have He : Hid (p + 2 = tg) := e
            clear e
            go_wp2
            go_returns
            refine ⟨rfl, ?_⟩
            rw [← He.out]
            exact (Hm.out.drewN _).to (p + 2) _ (by omega)
          · have hkk : ((k : Int) - 1 == 0) = false := by rw [beq_eq_false_iff_ne]; omega
            go_wp2
            have M := fun j => (Hm.out.drewN j).to (p + 2) ((p : Int) + 2) (by omega)
            refine ⟨⟨p + 2, k - 1, by omega, by omega, by congr 1; omega, M _, Or.inr ⟨by omega, ?_⟩⟩, pos_less d1 (M _) (by omega) (by omega)⟩
            rcases hk.out with ⟨h1, _⟩ | ⟨_, h1⟩
            · omega
            · rw [← h1, Plain.bc_close2 Ho.out Hc.out hk2]
        | false =>
          have Hc : Hid (Plain.two s.size (bt s) 42 47 p = false) := hc
          clear hc
          have hk1 : 1 ≤ k ∧ Plain.bc s.size (bt s) p k = tg := by
            rcases hk.out with ⟨_, rfl⟩ | h1
            · have := Hp.out; rw [Ho.out] at this; cases this
            · exact h1
          have Hk1 : Hid (1 ≤ k ∧ Plain.bc s.size (bt s) p k = tg) := hk1
          clear hk1
          go_wp2
          have M := fun j => (Hm.out.drewN j).to (p + 1) ((p : Int) + 1) (by omega)
          refine ⟨⟨p + 1, k, by omega, by omega, rfl, M _, Or.inr ⟨Hk1.out.1, ?_⟩⟩, pos_less d1 (M _) (by omega) (by omega)⟩
          rw [← Hk1.out.2, Plain.bc_other hlt Ho.out Hc.out]
    · have e : p = tg := by
        rcases hk.out with ⟨_, rfl⟩ | ⟨_, h1⟩
        · omega
        · rw [Plain.bc_end (by omega)] at h1
          exact h1
      have He : Hid (p = tg) := e
      clear e
      go_wp2
      go_quiet (fail)
      go_wp2
      go_end0
      refine ⟨rfl, ?_⟩
      rw [← He.out]
      exact Hm.out.drewN _
end Go.Proofs.Qxb6602423a
