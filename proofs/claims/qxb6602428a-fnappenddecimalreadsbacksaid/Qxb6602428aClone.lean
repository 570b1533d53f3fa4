/-
  THE WALK of cloneBytes.
-/
import Derived.Test.Qxb6602428aRows
import Derived.Test.Qxb6602428aPlain
import Derived.WalkKit
import Derived.WalkSpells
import Derived.WalkLawsBesides
import Derived.Handy
import Derived.PlainAid
import Derived.Deep.QuietTactic
import Derived.BigQuiet
import Derived.Laws.AppendOwnNone
import Derived.Laws.BytesArg
import Derived.Lib.AtoiErrMem
namespace Go.Proofs.Qxb6602428a
open Go.RowKit Go.PlainAid

theorem Try.info5 : (Try.prog.info? 5).map (fun i => (i.zero, i.size, i.bytes)) = some (some (.int .u8 0), 1, 1) := by kernel_rfl

/-- a row of bytes, as values -/
def ints (D : List Int) : List Value := D.map (Value.int .u8)
theorem ints_length (D : List Int) : (ints D).length = D.length := List.length_map _
theorem ints_get {D : List Int} {i : Nat} (h : i < D.length) : (ints D)[i]? = some (.int .u8 (D.getD i 0)) := by
  unfold ints
  rw [List.getElem?_map, List.getD_eq_getElem?_getD, List.getElem?_eq_getElem h]
  rfl

theorem eql_nil (a : Option Addr) (l c : Nat) (w : World) : (binOp .eql 25 (.slice a l c) (.slice none 0 0)).run Try.prog w = .ok (.bool a.isNone) w :=
  Lib.run_eql_slice_nil (P := Try.prog) w 25 5 a l c 0 0 Try.underlying25

set_option maxHeartbeats 400000 in
theorem clone_nil (w : World) : Calls Try.prog 18 #[.slice none 0 0] w fun e w' => e = .returned (.slice none 0 0) ∧ w' = w := by
  have hnil := eql_nil none 0 0
  go_enter Try.func18, Try.ntmps18
  go_wp2
  go_ret
  exact ⟨rfl, rfl⟩

/-- the row while it is being filled -/
def half (D : List Int) (k : Nat) : List Int := D.take k ++ List.replicate (D.length - k) 0
theorem half_length (D : List Int) (k : Nat) (hk : k ≤ D.length) : (half D k).length = D.length := by
  unfold half
  rw [List.length_append, List.length_take, List.length_replicate]
  omega
theorem half_zero (D : List Int) : half D 0 = List.replicate D.length 0 := by simp [half]
theorem half_full (D : List Int) : half D D.length = D := by simp [half]
theorem half_step (D : List Int) (k : Nat) (hk : k < D.length) : (half D k).set k (D.getD k 0) = half D (k + 1) := by
  unfold half
  rw [Plain.take_snoc D k hk]
  obtain ⟨m, hm⟩ : ∃ m, D.length - k = m + 1 := ⟨D.length - k - 1, by omega⟩
  rw [hm, show D.length - (k + 1) = m by omega, List.replicate_succ, List.set_append]
  have hl : (D.take k).length = k := by rw [List.length_take]; omega
  rw [if_neg (by omega), hl, Nat.sub_self, List.set_cons_zero, List.append_assoc]
  rfl
theorem ints_set (D : List Int) (k : Nat) (x : Int) : (ints D).set k (.int .u8 x) = ints (D.set k x) := by
  unfold ints
  rw [List.map_set]

set_option maxHeartbeats 400000 in
theorem clone_some (x : Addr) (len cap : Nat) (D : List Int) (hD : D.length = len) (hlen : len ≤ 524288) (w : World) (hc : ∀ i, i < len → w.cell? (x.add i) = some (.int .u8 (D.getD i 0))) :
    Calls Try.prog 18 #[.slice (some x) len cap] w fun e w' => e = .returned (.slice (some ⟨w.heap.size, 0, none⟩) len len) ∧ w'.ownsRow w.heap.size 5 1 (.slice (some ⟨w.heap.size, 0, none⟩) len len) len (ints D) ∧ Below w.heap.size w w' := by
  obtain ⟨i0, hi, hz0, hz1, hz2⟩ := info_parts Try.info5
  have hnil := eql_nil (some x) len cap
  have HD : Hid (D.length = len) := hD
  clear hD
  go_enter Try.func18, Try.ntmps18
  go_wp2_with (at_make; refine wpList_make_full _ rfl (.tmp 8) (.tmp 8) 25 rfl w.heap.size 5 i0 (.int .u8 0) 1 Try.underlying25 hi hz0 hz1 .i64 .i64 _ _ len rfl rfl rfl rfl (by rw [hz2]; omega) (by unfold maxLen; omega) (Nat.le_refl _) ?_; intro w1 hown hgrow)
  have hb1 : Below w.heap.size w w1 := (Below.refl _ _).grown hgrow (Nat.le_refl _) (fun k hk => by cases hk)
  have hs1 := (hown.lt w.heap.size rfl).2
  rw [show (madeCells (Value.int IntKind.u8 0).cells (len * 1)).toList = ints (half D 0) by
    rw [half_zero, HD.out, Nat.mul_one]; unfold ints; rw [List.map_replicate]; exact toList_madeCells_one _ _] at hown
  have Hown : Hid (w1.ownsRow w.heap.size 5 1 (.slice (some ⟨w.heap.size, 0, none⟩) len len) len (ints (half D 0))) := hown
  have Hb1 : Hid (Below w.heap.size w w1) := hb1
  clear hown hgrow hb1
  go_wp2_with fail
  go_loopw [4] (fun v wr => ∃ k : Nat, k ≤ len ∧ v = .int .i64 k ∧ Hid (wr.ownsRow w.heap.size 5 1 (.slice (some ⟨w.heap.size, 0, none⟩) len len) len (ints (half D k))) ∧ Hid (Below w.heap.size w wr)) (fun v _ => len - (intOf v).toNat)
  case atStart => exact ⟨0, Nat.zero_le _, rfl, Hown, Hb1⟩
  case round =>
    obtain ⟨k, hk, rfl, ho, hb⟩ := hrel
    by_cases hlt : k < len
    · have hcx : wr.cell? (x.add k) = some (.int .u8 (D.getD k 0)) := by
        rw [hb.out.cell (Lib.lt_of_cell (hc k hlt))]
        exact hc k hlt
      have hcy : wr.cell? ⟨w.heap.size, k, none⟩ = some (.int .u8 ((half D k).getD k 0)) := by
        rw [ho.out.cellAt k (by omega)]
        exact ints_get (by rw [half_length D k (by rw [HD.out]; exact hk), HD.out]; exact hlt)
      have hcf : wr.frozen? ⟨w.heap.size, k, none⟩ = false := ho.out.frozenAt k
      have S := ho.out.stored k (.int .u8 (D.getD k 0))
      rw [ints_set, half_step D k (by rw [HD.out]; exact hlt)] at S
      have HS : Hid _ := S
      clear S
      go_wp2
      refine ⟨⟨k + 1, by omega, rfl, HS.out.1, hb.out.grown HS.out.2 hb.out.size (fun j hj => by cases hj; exact Nat.le_refl _)⟩, by simp [intOf]; omega⟩
    · have e : k = len := by omega
      have HO : Hid (wr.ownsRow w.heap.size 5 1 (.slice (some ⟨w.heap.size, 0, none⟩) len len) len (ints D)) := by
        have := ho.out
        rw [e, ← HD.out, half_full] at this
        rw [← HD.out]
        exact this
      clear e ho
      go_wp2
      go_ret
      exact ⟨rfl, HO, hb⟩
end Go.Proofs.Qxb6602428a
