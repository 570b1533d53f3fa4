/-
  THE WALKS of parseNumber, parseVersion, ZZParseVersion.
-/
import Derived.Test.Qxb6601736aDoorUtoa
import Derived.Test.Qxb6601736aDoorShelf
import Derived.Deep.QuietTactic
import Derived.BigQuiet
import Derived.Lib.SmallJoins
namespace Go.Proofs.Qxb6601736aDoor
open Go.RowKit

/-- A text of bytes as a string. -/
def str (l : List UInt8) : ByteArray := ⟨l.toArray⟩
theorem str_data (l : List UInt8) : (str l).data.toList = l := by simp [str]
theorem str_size (l : List UInt8) : (str l).size = l.length := by simp [str, ByteArray.size]

set_option maxHeartbeats 400000 in
theorem parseNumber_ok (u : Nat) (hu : u < 18446744073709551616) (w : World) :
    Calls Tryd.prog 14 #[.string (str (Lib.decDigits u))] w fun e w' => e = .returned (.tuple #[.int .u64 u, .bool true]) ∧ Below w.heap.size w w' := by
  have hlen : (str (Lib.decDigits u)).size ≤ 20 := by
    rw [str_size, Lib.decDigits_length]
    exact Plain.nDigits_le u hu
  have hp : Lib.parseUintB 64 (str (Lib.decDigits u)).data.toList = .ok u := by
    rw [str_data]
    exact Plain.parseB_digits u hu
  generalize str (Lib.decDigits u) = s at *
  have hc := Tryd.strconv_ParseUint_10_at64_ok s (by omega) u hp w
  clear hp
  go_enter Tryd.func14, Tryd.ntmps14
  go_wp2_with (go_at_call 17; refine hc.mono ?_; rintro e w1 ⟨rfl, hw⟩)
  have hb : Below w.heap.size w w1 := by
    rcases hw with rfl | rfl
    · exact Below.refl _ _
    · exact Go.Joins.below_bytesWorld _ _ _ _ (Nat.le_refl _)
  clear hw
  go_wp2
  go_quiet (fail)
  go_wp2
  go_ret2
  exact ⟨rfl, by exact below_drewN hb _⟩
end Go.Proofs.Qxb6601736aDoor
