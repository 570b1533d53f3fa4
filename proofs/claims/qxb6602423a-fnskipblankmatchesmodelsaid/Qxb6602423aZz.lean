/-
  THE WALK of ZZSkipBlank.
-/
import Derived.Test.Qxb6602423aSkip
namespace Go.Proofs.Qxb6602423a
open Go.RowKit Go.PlainAid

set_option maxHeartbeats 400000 in
theorem zz_any (s : ByteArray) (hs : s.size ≤ 1048576) (p : Nat) (hp : p ≤ s.size) (st : Bool) (dp : Int) (un : Bool) (w : World) :
    Calls Try.prog 9 #[.string s, .int .i64 p, .bool st, .int .i64 dp, .bool un] w fun e w' =>
      e = .returned (.tuple #[.bool (Plain.skOk s.size (bt s) p), .string s, .int .i64 (Plain.skTo s.size (bt s) p), .bool st, .int .i64 dp, .bool un, .int .i64 0, .int .i64 0]) ∧ Below w.heap.size w w' := by
  have hc := fun b W h1 h2 h3 => skip_any s hs p hp b W h1 h2 h3
  generalize Plain.skOk s.size (bt s) p = ok at *
  generalize Plain.skTo s.size (bt s) p = to at *
  go_enter Try.func9, Try.ntmps9
  go_wp2_with fail
  refine (hc _ _ (by simp [go_sem]) (by simp [go_sem]) (by simp [go_sem])).mono ?_
  rintro e w1 ⟨rfl, hM⟩
  have e0 : w1.cell? ⟨w.heap.size, 0, none⟩ = some (.string s) := by rw [hM.cell _ (by simp)]; simp [go_sem]
  have e1 := hM.here
  have e2 : w1.cell? ⟨w.heap.size, 2, none⟩ = some (.bool st) := by rw [hM.cell _ (by simp)]; simp [go_sem]
  have e3 : w1.cell? ⟨w.heap.size, 3, none⟩ = some (.int .i64 dp) := by rw [hM.cell _ (by simp)]; simp [go_sem]
  have e4 : w1.cell? ⟨w.heap.size, 4, none⟩ = some (.bool un) := by rw [hM.cell _ (by simp)]; simp [go_sem]
  have e5 : w1.cell? ⟨w.heap.size, 5, none⟩ = some (.slice none 0 0) := by rw [hM.cell _ (by simp)]; simp [go_sem]
  have e6 : w1.cell? ⟨w.heap.size, 6, none⟩ = some (.slice none 0 0) := by rw [hM.cell _ (by simp)]; simp [go_sem]
  have hb : Below w.heap.size w w1 := ((Below.refl _ _).alloc (Nat.le_refl _) _).trans hM.below
  clear hM hc
  go_wp2
  go_quiet (fail)
  go_wp2
  refine bodyPost_ret (v := .tuple #[.bool ok, .string s, .int .i64 to, .bool st, .int .i64 dp, .bool un, .int .i64 0, .int .i64 0]) (by simp [results, Try.results9, go_sem]) rfl ⟨rfl, ?_⟩
  exact below_drewN hb _
end Go.Proofs.Qxb6602423a
