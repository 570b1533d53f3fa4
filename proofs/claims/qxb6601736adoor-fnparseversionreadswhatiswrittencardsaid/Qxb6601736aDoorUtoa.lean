/-
  THE WALK of 'utoaDiscB1': it writes the decimal digits of a uint64.
-/
import Derived.Test.Qxb6601736aDoorRows
import Derived.WalkKit
import Derived.WalkSpells
import Derived.WalkLawsBesides
import Derived.Handy
import Derived.Laws.BytesArg
import Derived.Test.Qxb6601736aDoorPlain
namespace Go.Proofs.Qxb6601736aDoor
open Go.RowKit

def cells (u k : Nat) : Array Value := ((Plain.row u k).map (Value.int .u8)).toArray

theorem cells_size (u k : Nat) : (cells u k).size = 20 := by simp [cells, Plain.row_length]
theorem cells_get (u k j : Nat) (hj : j < 20) : (cells u k)[j]? = some (.int .u8 ((Plain.row u k).getD j 0)) := by
  unfold cells
  rw [List.getElem?_toArray, List.getElem?_map, List.getElem?_eq_getElem (by rw [Plain.row_length]; exact hj)]
  rw [List.getD_eq_getElem?_getD, List.getElem?_eq_getElem (by rw [Plain.row_length]; exact hj)]
  rfl
theorem cells_set (u k : Nat) (hk : k < 20) : (cells u k).setIfInBounds (19 - k) (.int .u8 ((48 + u / 10 ^ k % 10 : Nat) : Int)) = cells u (k + 1) := by
  unfold cells
  rw [← Plain.row_step u k hk]
  simp

/-- The filled part of the row, as a string. -/
theorem tail_string (n k j : Nat) (hkj : k + j = 20) (hk : 1 ≤ k) (hlo : 10 ^ (k - 1) ≤ n) (hhi : n < 10 ^ k) (w : World) :
    (convert 36 9 (.slice (some ⟨w.heap.size, j, none⟩) (20 - j) (20 - j))).run Tryd.prog (w.alloc (.cells (cells n k) 35)) = .ok (.string ⟨(Lib.decDigits n).toArray⟩) (w.alloc (.cells (cells n k) 35)) := by
  have hlen : ((Plain.row n k).drop j).length = 20 - j := by rw [List.length_drop, Plain.row_length]
  rw [run_convert_bytes_arg (P := Tryd.prog) (w.alloc (.cells (cells n k) 35)) 36 5 Tryd.underlying36 Tryd.underlying5 w.heap.size j (20 - j) (20 - j) ((Plain.row n k).drop j) hlen ?_ 9 Tryd.underlying9]
  · have := Plain.row_tail n k hk (by omega) hlo hhi
    rw [show 20 - k = j by omega] at this
    rw [← this]
    rfl
  · intro i hi
    rw [World.cell?_alloc_new, cells_get n k (j + i) (by omega)]
    simp [List.getD_eq_getElem?_getD]

set_option maxHeartbeats 400000 in
theorem utoa_pos (n : Nat) (hn : n < 18446744073709551616) (h0 : (((n : Nat) : Int) == 0) = false) (w : World) :
    Calls Tryd.prog 8 #[.int .u64 n] w fun e w' => e = .returned (.string ⟨(Lib.decDigits n).toArray⟩) ∧ ∃ o, w' = w.alloc o := by
  have hpos : 0 < n := by
    have := beq_eq_false_iff_ne.1 h0
    omega
  go_enter Tryd.func8, Tryd.ntmps8
  go_wp2
  go_loopw [0, 4] (fun v i wr => ∃ k j : Nat, Hid (k + j = 20) ∧ v = .int .u64 ((n / 10 ^ k : Nat) : Int) ∧ i = .int .i64 (j : Int) ∧ wr = w.alloc (.cells (cells n k) 35) ∧ (1 ≤ k → 10 ^ (k - 1) ≤ n)) (fun _ i _ => (intOf i).toNat)
  case atStart =>
    refine ⟨0, 20, show 0 + 20 = 20 by omega, by simp, by simp, ?_, by omega⟩
    unfold cells
    rw [Plain.row_zero]
    rfl
  case round =>
    obtain ⟨k, j, hkj, rfl, rfl, rfl, hlo⟩ := hrel
    have hj20 : j ≤ 20 := by have := hkj.out; omega
    by_cases hz : n / 10 ^ k = 0
    · have hk1 : 1 ≤ k := by
        rcases Nat.eq_zero_or_pos k with e | e
        · subst e; simp at hz; omega
        · exact e
      have hhi : n < 10 ^ k := by
        rcases Nat.lt_or_ge n (10 ^ k) with h | h
        · exact h
        · have := Nat.div_pos h (Nat.pow_pos (by decide)); omega
      have hts := tail_string n k j hkj.out hk1 (hlo hk1) hhi w
      have hb0 : (0 : Int) ≤ (j : Int) := by omega
      have hb1 : (j : Int) ≤ 20 := by omega
      have hne : ¬ 20 = j := by have := hkj.out; omega
      rw [hz]
      clear hz hlo hhi
      go_wp2
      go_ret
      exact ⟨rfl, _, rfl⟩
    · generalize hq : n / 10 ^ k = q at *
      have Hq : Hid (n / 10 ^ k = q) := hq
      clear hq
      have hq0 : 0 < q := by omega
      have hq1 : q < 18446744073709551616 := by rw [← Hq.out]; exact Nat.lt_of_le_of_lt (Nat.div_le_self _ _) hn
      have hk20 : k < 20 := by
        rcases Nat.lt_or_ge k 20 with h | h
        · exact h
        · exfalso
          have e : k = 20 := by have := hkj.out; omega
          subst e
          have e2 := Hq.out
          rw [Nat.div_eq_of_lt (Nat.lt_of_lt_of_le hn (by decide))] at e2
          omega
      have hj0 : 0 < j := by have := hkj.out; omega
      have hc : (cells n k)[j - 1]? = some (.int .u8 ((Plain.row n k).getD (j - 1) 0)) := cells_get n k _ (by omega)
      go_wp2
      refine ⟨⟨k + 1, j - 1, (show k + 1 + (j - 1) = 20 by have := hkj.out; omega), ?_, by congr 1; omega, ?_, fun _ => ?_⟩, by simp [intOf]; omega⟩
      · rw [← Hq.out, Nat.pow_succ, ← Nat.div_div_eq_div_mul]; rfl
      · have hs := cells_set n k hk20
        rw [Hq.out] at hs
        rw [show j - 1 = 19 - k by have := hkj.out; omega]
        exact congrArg (fun c => w.alloc (.cells c 35)) hs
      · have h1 := Nat.div_mul_le_self n (10 ^ k)
        rw [Hq.out] at h1
        have h2 : 1 * 10 ^ k ≤ q * 10 ^ k := Nat.mul_le_mul_right _ hq0
        simp only [Nat.add_sub_cancel]
        omega
end Go.Proofs.Qxb6601736aDoor
