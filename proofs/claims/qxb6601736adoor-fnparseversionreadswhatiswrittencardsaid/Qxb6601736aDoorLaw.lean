/-
  THE WALK of the law itself.
-/
import Derived.Test.Qxb6601736aDoorVer2
namespace Go.Proofs.Qxb6601736aDoor
open Go.RowKit

set_option maxHeartbeats 400000 in
theorem utoa_any (n : Nat) (hn : n < 18446744073709551616) (w : World) :
    Calls Tryd.prog 8 #[.int .u64 n] w fun e w' => e = .returned (.string (str (Lib.decDigits n))) ∧ Below w.heap.size w w' := by
  by_cases h : n = 0
  · subst h
    have e0 : str (Lib.decDigits 0) = ⟨#[48]⟩ := by rw [Lib.decDigits_one (by decide)]; rfl
    rw [e0]
    go_enter Tryd.func8, Tryd.ntmps8
    go_wp2
    go_ret
    exact ⟨rfl, Below.refl _ _⟩
  · refine (utoa_pos n hn (by rw [beq_eq_false_iff_ne]; omega) w).mono ?_
    rintro e w' ⟨rfl, o, rfl⟩
    exact ⟨rfl, (Below.refl _ _).alloc (Nat.le_refl _) _⟩

set_option maxHeartbeats 400000 in
theorem law_out (st a b : Int) (h : st < 0 ∨ 2 < st) (w : World) :
    Calls Tryd.prog 4 #[.int .i64 st, .int .u64 a, .int .u64 b] w fun e w' => e = .returned (.bool true) ∧ Below w.heap.size w w' := by
  rcases h with h | h
  · go_enter Tryd.func4, Tryd.ntmps4
    go_wp2
    go_ret
    exact ⟨rfl, Below.refl _ _⟩
  · have h' : ¬ st < 0 := by omega
    go_enter Tryd.func4, Tryd.ntmps4
    go_wp2
    go_ret
    exact ⟨rfl, Below.refl _ _⟩

theorem str_app (a b : List UInt8) : str a ++ str b = str (a ++ b) := ByteArray.mk_append_mk a b
theorem size_digits (u : Nat) (hu : u < 18446744073709551616) : (str (Lib.decDigits u)).size ≤ 20 := by
  rw [str_size, Lib.decDigits_length]
  exact Plain.nDigits_le u hu
theorem text0 (u v : Nat) : str (text 0 u v) = (⟨#[118]⟩ : ByteArray) ++ str (Lib.decDigits u) := (str_app [118] (Lib.decDigits u)).symm
theorem text1 (u v : Nat) : str (text 1 u v) = (⟨#[118]⟩ : ByteArray) ++ str (Lib.decDigits u) ++ (⟨#[98, 101, 116, 97]⟩ : ByteArray) ++ str (Lib.decDigits v) := by
  have h : str [118] ++ str (Lib.decDigits u) ++ str Plain.beta ++ str (Lib.decDigits v) = str (text 1 u v) := by
    rw [str_app, str_app, str_app]
    simp [text]
  exact h.symm
theorem text2 (u v : Nat) : str (text 2 u v) = (⟨#[118]⟩ : ByteArray) ++ str (Lib.decDigits u) ++ (⟨#[97, 108, 112, 104, 97]⟩ : ByteArray) ++ str (Lib.decDigits v) := by
  have h : str [118] ++ str (Lib.decDigits u) ++ str Plain.alpha ++ str (Lib.decDigits v) = str (text 2 u v) := by
    rw [str_app, str_app, str_app]
    simp [text]
  exact h.symm

set_option maxHeartbeats 400000 in
theorem law_zero (u v : Nat) (hu : u < 18446744073709551616) (hv : v < 18446744073709551616) (m : Int) (w : World) (hm : w.cell? ⟨0, 0, none⟩ = some (.int .i64 m)) :
    Calls Tryd.prog 4 #[.int .i64 0, .int .u64 u, .int .u64 v] w fun e w' => e = .returned (.bool true) ∧ Below w.heap.size w w' := by
  have h0 : 0 < w.heap.size := Lib.lt_of_cell hm
  have hz := fun W h => zz_any 0 (by decide) u v hu hv m W h
  rw [text0, show minor 0 v = 0 from rfl] at hz
  have su := size_digits u hu
  have hn := utoa_any u hu
  generalize str (Lib.decDigits u) = a at *
  go_enter Tryd.func4, Tryd.ntmps4
  go_wp2_with fail
  refine (hn _).mono ?_
  rintro e w1 ⟨rfl, hb⟩
  have hm1 : w1.cell? ⟨0, 0, none⟩ = some (.int .i64 m) := by rw [hb.cell h0]; exact hm
  go_wp2_with fail
  refine (hz _ hm1).mono ?_
  rintro e w2 ⟨rfl, hb2⟩
  go_wp2
  go_ret
  exact ⟨rfl, hb.trans (hb2.mono hb.size)⟩

set_option maxHeartbeats 400000 in
theorem law_one (u v : Nat) (hu : u < 18446744073709551616) (hv : v < 18446744073709551616) (m : Int) (w : World) (hm : w.cell? ⟨0, 0, none⟩ = some (.int .i64 m)) :
    Calls Tryd.prog 4 #[.int .i64 1, .int .u64 u, .int .u64 v] w fun e w' => e = .returned (.bool true) ∧ Below w.heap.size w w' := by
  have h0 : 0 < w.heap.size := Lib.lt_of_cell hm
  have hz := fun W h => zz_any 1 (by decide) u v hu hv m W h
  rw [text1, show minor 1 v = v from rfl] at hz
  have su := size_digits u hu
  have sv := size_digits v hv
  have hn := utoa_any u hu
  have hn2 := utoa_any v hv
  generalize str (Lib.decDigits u) = a at *
  generalize str (Lib.decDigits v) = b at *
  go_enter Tryd.func4, Tryd.ntmps4
  go_wp2_with fail
  refine (hn _).mono ?_
  rintro e w1 ⟨rfl, hb⟩
  have hm1 : w1.cell? ⟨0, 0, none⟩ = some (.int .i64 m) := by rw [hb.cell h0]; exact hm
  go_wp2_with fail
  refine (hn2 _).mono ?_
  rintro e w2 ⟨rfl, hb2⟩
  have hm2 : w2.cell? ⟨0, 0, none⟩ = some (.int .i64 m) := by rw [hb2.cell (Nat.lt_of_lt_of_le h0 hb.size)]; exact hm1
  clear hm1
  go_wp2_with fail
  refine (hz _ hm2).mono ?_
  rintro e w3 ⟨rfl, hb3⟩
  go_wp2
  go_ret
  exact ⟨rfl, (hb.trans (hb2.mono hb.size)).trans (hb3.mono (Nat.le_trans hb.size hb2.size))⟩

set_option maxHeartbeats 400000 in
theorem law_two (u v : Nat) (hu : u < 18446744073709551616) (hv : v < 18446744073709551616) (m : Int) (w : World) (hm : w.cell? ⟨0, 0, none⟩ = some (.int .i64 m)) :
    Calls Tryd.prog 4 #[.int .i64 2, .int .u64 u, .int .u64 v] w fun e w' => e = .returned (.bool true) ∧ Below w.heap.size w w' := by
  have h0 : 0 < w.heap.size := Lib.lt_of_cell hm
  have hz := fun W h => zz_any 2 (by decide) u v hu hv m W h
  rw [text2, show minor 2 v = v from rfl] at hz
  have su := size_digits u hu
  have sv := size_digits v hv
  have hn := utoa_any u hu
  have hn2 := utoa_any v hv
  generalize str (Lib.decDigits u) = a at *
  generalize str (Lib.decDigits v) = b at *
  go_enter Tryd.func4, Tryd.ntmps4
  go_wp2_with fail
  refine (hn _).mono ?_
  rintro e w1 ⟨rfl, hb⟩
  have hm1 : w1.cell? ⟨0, 0, none⟩ = some (.int .i64 m) := by rw [hb.cell h0]; exact hm
  go_wp2_with fail
  refine (hn2 _).mono ?_
  rintro e w2 ⟨rfl, hb2⟩
  have hm2 : w2.cell? ⟨0, 0, none⟩ = some (.int .i64 m) := by rw [hb2.cell (Nat.lt_of_lt_of_le h0 hb.size)]; exact hm1
  clear hm1
  go_wp2_with fail
  refine (hz _ hm2).mono ?_
  rintro e w3 ⟨rfl, hb3⟩
  go_wp2
  go_ret
  exact ⟨rfl, (hb.trans (hb2.mono hb.size)).trans (hb3.mono (Nat.le_trans hb.size hb2.size))⟩

/-- THE LAW AT EVERY INPUT. -/
theorem walk (st a b : Int) (w1 : (Lit.int .u64 a).wf = true) (w2 : (Lit.int .u64 b).wf = true) (m : Int) (w : World) (hm : w.cell? ⟨0, 0, none⟩ = some (.int .i64 m)) :
    Calls Tryd.prog 4 #[.int .i64 st, .int .u64 a, .int .u64 b] w fun e w' => e = .returned (.bool true) ∧ Below w.heap.size w w' := by
  obtain ⟨a0, a1⟩ := bounds_u64 w1
  obtain ⟨b0, b1⟩ := bounds_u64 w2
  obtain ⟨u, rfl⟩ := Int.eq_ofNat_of_zero_le a0
  obtain ⟨v, rfl⟩ := Int.eq_ofNat_of_zero_le b0
  by_cases h : st < 0 ∨ 2 < st
  · exact law_out st u v h w
  · have hs : st = 0 ∨ st = 1 ∨ st = 2 := by omega
    rcases hs with rfl | rfl | rfl
    · exact law_zero u v (by omega) (by omega) m w hm
    · exact law_one u v (by omega) (by omega) m w hm
    · exact law_two u v (by omega) (by omega) m w hm
end Go.Proofs.Qxb6601736aDoor
