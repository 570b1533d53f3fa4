/-
  The history's operations as plain data; the bounds.
-/
import Derived.Test.Qxb6602630aRune
namespace Go.Proofs.Qxb6602630a
open Go.RowKit Go.PlainAid

structure ZOp where
  cl : Int
  kind : ByteArray
  key : ByteArray
  val : ByteArray
  out : ByteArray
  call : Int
  ret : Int
  ans : Bool
instance : Inhabited ZOp := ⟨⟨0, .empty, .empty, .empty, .empty, 0, 0, false⟩⟩

/-- the eight cells of an operation, from the address y on -/
def OpAt (w : World) (y : Addr) (z : ZOp) : Prop :=
  w.cell? y = some (.int .i64 z.cl) ∧ w.cell? ⟨y.block, y.off + 1, none⟩ = some (.string z.kind) ∧ w.cell? ⟨y.block, y.off + 2, none⟩ = some (.string z.key) ∧ w.cell? ⟨y.block, y.off + 3, none⟩ = some (.string z.val) ∧
  w.cell? ⟨y.block, y.off + 4, none⟩ = some (.string z.out) ∧ w.cell? ⟨y.block, y.off + 5, none⟩ = some (.int .i64 z.call) ∧ w.cell? ⟨y.block, y.off + 6, none⟩ = some (.int .i64 z.ret) ∧ w.cell? ⟨y.block, y.off + 7, none⟩ = some (.bool z.ans)

theorem opAt_below {w w' : World} {y : Addr} {z : ZOp} {m : Nat} (h : OpAt w y z) (hm : y.block < m) (hb : Below m w w') : OpAt w' y z := by
  obtain ⟨c0, c1, c2, c3, c4, c5, c6, c7⟩ := h
  refine ⟨?_, ?_, ?_, ?_, ?_, ?_, ?_, ?_⟩
  · rw [hb.cell hm]; assumption
  all_goals
    rw [hb.cell (by exact hm)]
    assumption

def ZOp.agg (z : ZOp) : Value := .agg #[.int .i64 z.cl, .string z.kind, .string z.key, .string z.val, .string z.out, .int .i64 z.call, .int .i64 z.ret, .bool z.ans]

theorem Try.cells43 : Try.prog.cellsOf 43 = 8 := by kernel_rfl
theorem Try.cells41 : Try.prog.cellsOf 41 = 8 := by kernel_rfl
theorem Try.cells30 : Try.prog.cellsOf 30 = 4 := by kernel_rfl
theorem Try.cells25 : Try.prog.cellsOf 25 = 1 := by kernel_rfl

def BytesSaid (len : Nat) (Z : Nat → ZOp) (w : World) (e : Ending) (w' : World) : Prop :=
  ∃ b, e = .returned (.bool b) ∧ (b = true → ∀ i, i < len → (Z i).val.size ≤ 1048576 ∧ (Z i).key.size ≤ 1048576) ∧ w = w'

set_option maxRecDepth 100000 in
set_option maxHeartbeats 1000000 in
theorem bytes_any (x : Addr) (len cap : Nat) (Z : Nat → ZOp) (w : World) (hc : ∀ i, i < len → OpAt w (x.add (i * 8)) (Z i)) :
    Calls Try.prog 19 #[.slice (some x) len cap] w (BytesSaid len Z w) := by
  have Hc : Hid (∀ i, i < len → OpAt w (x.add (i * 8)) (Z i)) := hc
  clear hc
  by_cases h : (1048576 : Int) < (len : Int)
  · go_enter Try.func19, Try.ntmps19
    go_wp2_with fail
    go_ret
    exact ⟨_, rfl, (fun h => Bool.noConfusion h), rfl⟩
  · go_enter Try.func19, Try.ntmps19
    go_wp2_with fail
    go_loop [3, 4] (fun u v => ∃ (i n : Nat), i ≤ len ∧ n ≤ 1048576 ∧ Hid (∀ j, j < i → (Z j).val.size ≤ 1048576 ∧ (Z j).key.size ≤ 1048576) ∧ u = .int .i64 n ∧ v = .int .i64 i) (fun _ v => len - (intOf v).toNat)
    case atStart => exact ⟨0, len, Nat.zero_le _, by omega, (fun j hj => absurd hj (Nat.not_lt_zero _)), rfl, rfl⟩
    case round =>
      obtain ⟨i, n, hi, hn, hz, rfl, rfl⟩ := hrel
      by_cases hlt : i < len
      · obtain ⟨c0, c1, c2, c3, c4, c5, c6, c7⟩ := Hc.out i hlt
        go_wp2_with fail
        all_goals first
          | (go_ret; exact ⟨_, rfl, (fun h => Bool.noConfusion h), rfl⟩)
          | skip
        refine ⟨⟨i + 1, n + (Z i).kind.size + (Z i).key.size + (Z i).val.size + (Z i).out.size, by omega, by omega, ?_, by simp, by simp⟩, by simp [intOf]; omega⟩
        intro j hj
        by_cases hji : j < i
        · exact hz.out j hji
        · have e : j = i := by omega
          subst e
          exact ⟨by omega, by omega⟩
      · go_wp2_with fail
        go_ret
        exact ⟨_, rfl, (fun _ j hj => hz.out j (by omega)), rfl⟩

def SomeInt (w : World) (e : Ending) (w' : World) : Prop := (∃ m, e = .returned (.int .i64 m)) ∧ Below w.heap.size w w'

set_option maxRecDepth 100000 in
set_option maxHeartbeats 1000000 in
theorem opBytes (z : ZOp) (w : World) : Calls Try.prog 25 #[.agg #[.int .i64 z.cl, .string z.kind, .string z.key, .string z.val, .string z.out, .int .i64 z.call, .int .i64 z.ret, .bool z.ans]] w (SomeInt w) := by
  go_enter Try.func25, Try.ntmps25
  go_wp2_with fail
  all_goals
    go_ret
    exact ⟨⟨_, rfl⟩, (Below.refl _ _).alloc (Nat.le_refl _) _⟩

def BigSaid (len : Nat) (w : World) (e : Ending) (w' : World) : Prop :=
  ∃ b, e = .returned (.bool b) ∧ (b = false → len ≤ 65536) ∧ Below w.heap.size w w'

set_option maxRecDepth 100000 in
set_option maxHeartbeats 1000000 in
theorem tooBig (x : Addr) (len cap : Nat) (Z : Nat → ZOp) (w : World) (hc : ∀ i, i < len → OpAt w (x.add (i * 8)) (Z i)) :
    Calls Try.prog 12 #[.slice (some x) len cap] w (BigSaid len w) := by
  have Hc : Hid (∀ i, i < len → OpAt w (x.add (i * 8)) (Z i)) := hc
  clear hc
  by_cases h : (65536 : Int) < (len : Int)
  · go_enter Try.func12, Try.ntmps12
    go_wp2_with fail
    go_ret
    exact ⟨_, rfl, (fun h => Bool.noConfusion h), Below.refl _ _⟩
  · go_enter Try.func12, Try.ntmps12
    go_wp2_with fail
    go_loopw [3, 4] (fun u v wx => ∃ (i : Nat) (n : Int), i ≤ len ∧ Hid (Below w.heap.size w wx) ∧ u = .int .i64 n ∧ v = .int .i64 i) (fun _ v _ => len - (intOf v).toNat)
    case atStart => exact ⟨0, 0, Nat.zero_le _, Below.refl _ _, rfl, rfl⟩
    case round =>
      obtain ⟨i, n, hi, hb, rfl, rfl⟩ := hrel
      by_cases hlt : i < len
      · have hop := Hc.out i hlt
        have hlx := Lib.lt_of_cell hop.1
        obtain ⟨c0, c1, c2, c3, c4, c5, c6, c7⟩ := opAt_below hop hlx hb.out
        go_wp2_with fail
        refine (opBytes (Z i) wr).mono ?_
        rintro e w2 ⟨⟨m, rfl⟩, hb2⟩
        go_wp2_with fail
        · go_ret
          exact ⟨_, rfl, (fun h => Bool.noConfusion h), hb.out.trans (hb2.mono hb.out.size)⟩
        · exact ⟨⟨i + 1, _, by omega, hb.out.trans (hb2.mono hb.out.size), rfl, rfl⟩, by simp [intOf]; omega⟩
      · go_wp2_with fail
        go_ret
        exact ⟨_, rfl, (fun _ => by omega), hb⟩

set_option maxRecDepth 100000 in
set_option maxHeartbeats 1000000 in
theorem bytes_nil (Z : Nat → ZOp) (w : World) : Calls Try.prog 19 #[.slice none 0 0] w (BytesSaid 0 Z w) := by
  go_enter Try.func19, Try.ntmps19
  go_wp2_with fail
  refine wp_loop_rounds 1 ?_
  rw [rounds_succ]
  go_wp2_with fail
  go_ret
  exact ⟨_, rfl, (fun _ _ h => absurd h (Nat.not_lt_zero _)), rfl⟩

set_option maxRecDepth 100000 in
set_option maxHeartbeats 1000000 in
theorem big_nil (w : World) : Calls Try.prog 12 #[.slice none 0 0] w (BigSaid 0 w) := by
  go_enter Try.func12, Try.ntmps12
  go_wp2_with fail
  refine wp_loop_rounds 1 ?_
  rw [rounds_succ]
  go_wp2_with fail
  go_ret
  exact ⟨_, rfl, (fun _ => by omega), Below.refl _ _⟩
end Go.Proofs.Qxb6602630a
