/-
  THE WALK of the law FnAppendDecimalReadsBack.
-/
import Derived.Test.Qxb6602428aText
namespace Go.Proofs.Qxb6602428a
open Go.RowKit Go.PlainAid

theorem row_shape {w : World} {base : Nat} {v : Value} {n : Nat} {L : List Int} (h : w.ownsRow base 5 1 v n (ints L)) (hn : 0 < n) :
    ∃ g cap, v = .slice (some ⟨g, 0, none⟩) n cap ∧ g < w.heap.size ∧ ∀ j, j < n → w.cell? ⟨g, j, none⟩ = some (.int .u8 (L.getD j 0)) := by
  have hl : L.length = n := by have := h.1; rw [ints_length] at this; omega
  rcases h.2 with ⟨_, h0⟩ | ⟨g, cap, cur, rfl, hb, hg, _⟩
  · omega
  · refine ⟨g, cap, rfl, (h.lt g rfl).2, ?_⟩
    intro j hj
    rw [h.cellAt j (by omega)]
    exact ints_get (by omega)
theorem row_shape' {w : World} {base : Nat} {v : Value} {n : Nat} {L : List Int} (h : w.ownsRow base 5 1 v n (ints L)) : L.length = n := by
  have := h.1
  rw [ints_length] at this
  omega

/-- the bytes of a row, as a string -/
theorem row_string {w : World} {g n cap : Nat} {L : List Int} (hl : L.length = n) (hc : ∀ j, j < n → w.cell? ⟨g, j, none⟩ = some (.int .u8 (L.getD j 0))) :
    (convert 25 9 (.slice (some ⟨g, 0, none⟩) n cap)).run Try.prog w = .ok (.string (strOfNums L)) w :=
  run_convert_bytes_arg (P := Try.prog) w 25 5 Try.underlying25 Try.underlying5 g 0 n cap L hl (fun i hi => by rw [Nat.zero_add]; exact hc i hi) 9 Try.underlying9

set_option maxHeartbeats 400000 in
theorem bytes_small (a : Option Addr) (len cap : Nat) (hl : len ≤ 1048576) (p : Int) (neg : Bool) (w : World) :
    Calls Try.prog 22 #[.slice a len cap, .int .i64 p, .bool neg] w fun e w' => e = .returned (.bool true) ∧ w' = w := by
  have h : ¬ (1048576 : Int) < (len : Int) := by omega
  go_enter Try.func22, Try.ntmps22
  go_wp2
  go_ret
  exact ⟨rfl, rfl⟩

set_option maxRecDepth 100000 in
set_option maxHeartbeats 1000000 in
theorem law_big (a : Option Addr) (len cap : Nat) (hl : 524288 < len) (p : Int) (neg : Bool) (w : World) :
    Calls Try.prog 8 #[.slice a len cap, .int .i64 p, .bool neg] w fun e w' => e = .returned (.bool true) ∧ Below w.heap.size w w' := by
  have h2 : (524288 : Int) < (len : Int) := by omega
  by_cases h : (1048576 : Int) < (len : Int)
  · go_enter Try.func8, Try.ntmps8
    go_wp2_with go_in
    go_ret
    exact ⟨rfl, Below.refl _ _⟩
  · go_enter Try.func8, Try.ntmps8
    go_wp2_with go_in
    go_ret
    exact ⟨rfl, Below.refl _ _⟩

set_option maxRecDepth 100000 in
set_option maxHeartbeats 1000000 in
theorem law_places (a : Option Addr) (len cap : Nat) (hl : len ≤ 524288) (p : Int) (hp : p < 0 ∨ 65536 < p) (neg : Bool) (w : World) :
    Calls Try.prog 8 #[.slice a len cap, .int .i64 p, .bool neg] w fun e w' => e = .returned (.bool true) ∧ Below w.heap.size w w' := by
  have h2 : ¬ (524288 : Int) < (len : Int) := by omega
  have hz := bytes_small a len cap (by omega) p neg w
  rcases hp with hp | hp
  · go_enter Try.func8, Try.ntmps8
    go_wp2_with (go_at_call 22; refine hz.mono ?_; rintro e w1 ⟨rfl, rfl⟩)
    go_ret
    exact ⟨rfl, Below.refl _ _⟩
  · have hp' : ¬ p < 0 := by omega
    go_enter Try.func8, Try.ntmps8
    go_wp2_with (go_at_call 22; refine hz.mono ?_; rintro e w1 ⟨rfl, rfl⟩)
    go_ret
    exact ⟨rfl, Below.refl _ _⟩

set_option maxRecDepth 100000 in
set_option maxHeartbeats 1000000 in
theorem law_none (a : Option Addr) (cap : Nat) (neg : Bool) (w : World) :
    Calls Try.prog 8 #[.slice a 0 cap, .int .i64 0, .bool neg] w fun e w' => e = .returned (.bool true) ∧ Below w.heap.size w w' := by
  have hz := bytes_small a 0 cap (by omega) 0 neg w
  go_enter Try.func8, Try.ntmps8
  go_wp2_with (go_at_call 22; refine hz.mono ?_; rintro e w1 ⟨rfl, rfl⟩)
  go_ret
  exact ⟨rfl, Below.refl _ _⟩

set_option maxRecDepth 100000 in
set_option maxHeartbeats 1000000 in
theorem law_other (x : Addr) (len cap : Nat) (hl : len ≤ 524288) (D : List Int) (hD : D.length = len) (P : Nat) (hP : P ≤ 65536) (neg : Bool) (w : World)
    (hc : ∀ i, i < len → w.cell? (x.add i) = some (.int .u8 (D.getD i 0))) (i0 : Nat) (hi0 : i0 < len) (hno : Plain.dig (D.getD i0 0) = false) (hbefore : ∀ i, i < i0 → Plain.dig (D.getD i 0) = true) :
    Calls Try.prog 8 #[.slice (some x) len cap, .int .i64 P, .bool neg] w fun e w' => e = .returned (.bool true) ∧ Below w.heap.size w w' := by
  have h2 : ¬ (524288 : Int) < (len : Int) := by omega
  have hz := bytes_small (some x) len cap (by omega) P neg w
  have hl0 : ((len : Int) == 0) = false := beq_eq_false_iff_ne.2 (by omega)
  have Hc : Hid (∀ i, i < len → w.cell? (x.add i) = some (.int .u8 (D.getD i 0))) := hc
  have Hno : Hid (Plain.dig (D.getD i0 0) = false) := hno
  have Hbe : Hid (∀ i, i < i0 → Plain.dig (D.getD i 0) = true) := hbefore
  clear hc hno hbefore hD
  go_enter Try.func8, Try.ntmps8
  go_wp2_with (go_at_call 22; refine hz.mono ?_; rintro e w1 ⟨rfl, rfl⟩)
  go_loop [7] (fun v => ∃ i : Nat, i ≤ i0 ∧ v = .int .i64 i) (fun v => i0 - (intOf v).toNat)
  case atStart => exact ⟨0, Nat.zero_le _, rfl⟩
  case round =>
    obtain ⟨i, hi, rfl⟩ := hrel
    have hcx := Hc.out i (by omega)
    have hil : i < len := by omega
    by_cases hlt : i < i0
    · have hd := Hbe.out i hlt
      generalize D.getD i 0 = c at *
      go_wp2_with fail
      refine (isdig_any _ _).mono ?_
      rintro e w2 ⟨rfl, rfl⟩
      rw [hd]
      go_wp2_with fail
      exact ⟨⟨i + 1, by omega, rfl⟩, by simp [intOf]; omega⟩
    · have e : i = i0 := by omega
      subst e
      have hd := Hno.out
      generalize D.getD i 0 = c at *
      go_wp2_with fail
      refine (isdig_any _ _).mono ?_
      rintro e w2 ⟨rfl, rfl⟩
      rw [hd]
      go_wp2_with fail
      go_ret
      exact ⟨rfl, Below.refl _ _⟩
end Go.Proofs.Qxb6602428a
