/-
  THE WALK of the law FnSkipBlankMatchesModel.
-/
import Derived.Test.Qxb6602423aModel2
namespace Go.Proofs.Qxb6602423a
open Go.RowKit Go.PlainAid

set_option maxRecDepth 100000 in
set_option maxHeartbeats 1000000 in
theorem match_big (s : ByteArray) (hs : 1048576 < s.size) (ps : Int) (st : Bool) (dp : Int) (un : Bool) (w : World) :
    Calls Try.prog 3 #[.string s, .int .i64 ps, .bool st, .int .i64 dp, .bool un] w fun e w' => e = .returned (.bool true) ∧ Below w.heap.size w w' := by
  have h : (1048576 : Int) < (s.size : Int) := by omega
  go_enter Try.func3, Try.ntmps3
  go_wp2_with go_in
  go_ret
  exact ⟨rfl, Below.refl _ _⟩

set_option maxHeartbeats 400000 in
theorem bytes_small (s : ByteArray) (hs : s.size ≤ 1048576) (ps : Int) (st : Bool) (dp : Int) (un : Bool) (w : World) :
    Calls Try.prog 7 #[.string s, .int .i64 ps, .bool st, .int .i64 dp, .bool un] w fun e w' => e = .returned (.bool true) ∧ w' = w := by
  have h : ¬ (1048576 : Int) < (s.size : Int) := by omega
  go_enter Try.func7, Try.ntmps7
  go_wp2
  go_ret
  exact ⟨rfl, rfl⟩

set_option maxRecDepth 100000 in
set_option maxHeartbeats 1000000 in
theorem match_out (s : ByteArray) (hs : s.size ≤ 1048576) (ps : Int) (hp : ps < 0 ∨ (s.size : Int) < ps) (st : Bool) (dp : Int) (un : Bool) (w : World) :
    Calls Try.prog 3 #[.string s, .int .i64 ps, .bool st, .int .i64 dp, .bool un] w fun e w' => e = .returned (.bool true) ∧ Below w.heap.size w w' := by
  have h : ¬ (1048576 : Int) < (s.size : Int) := by omega
  have hz := bytes_small s hs ps st dp un w
  rcases hp with hp | hp
  · go_enter Try.func3, Try.ntmps3
    go_wp2_with (go_at_call 7; refine hz.mono ?_; rintro e w1 ⟨rfl, rfl⟩)
    go_ret
    exact ⟨rfl, Below.refl _ _⟩
  · have hp' : ¬ ps < 0 := by omega
    go_enter Try.func3, Try.ntmps3
    go_wp2_with (go_at_call 7; refine hz.mono ?_; rintro e w1 ⟨rfl, rfl⟩)
    go_ret
    exact ⟨rfl, Below.refl _ _⟩

set_option maxRecDepth 100000 in
set_option maxHeartbeats 1000000 in
theorem match_in (s : ByteArray) (hs : s.size ≤ 1048576) (p : Nat) (hp : p ≤ s.size) (st : Bool) (dp : Int) (un : Bool) (w : World) :
    Calls Try.prog 3 #[.string s, .int .i64 p, .bool st, .int .i64 dp, .bool un] w fun e w' => e = .returned (.bool true) ∧ Below w.heap.size w w' := by
  have h : ¬ (1048576 : Int) < (s.size : Int) := by omega
  have hz := bytes_small s hs p st dp un w
  have hm := fun W => model_any s hs p hp W
  have hk := fun W => zz_any s hs p hp st dp un W
  generalize Plain.skOk s.size (bt s) p = ok at *
  generalize Plain.skTo s.size (bt s) p = to at *
  go_enter Try.func3, Try.ntmps3
  go_wp2_with fail
  refine hz.mono ?_
  rintro e w1 ⟨rfl, rfl⟩
  go_wp2_with fail
  refine (hm _).mono ?_
  rintro e w2 ⟨rfl, rfl⟩
  go_wp2_with fail
  refine (hk _).mono ?_
  rintro e w3 ⟨rfl, hb⟩
  go_wp2_with fail
  go_ret
  exact ⟨rfl, hb⟩
end Go.Proofs.Qxb6602423a
