/-
  THE WALK of appendDecimal where digits are no more than places: zeros are put in front.
-/
import Derived.Test.Qxb6602428aAppend
namespace Go.Proofs.Qxb6602428a
open Go.RowKit Go.PlainAid

theorem out_short (neg : Bool) {D : List Int} {P : Nat} (h0 : P ≠ 0) (h : D.length ≤ P) : Plain.out neg D P = Plain.sign neg ++ [48, 46] ++ List.replicate (P - D.length) 48 ++ D := by
  unfold Plain.out
  rw [Plain.body_short h0 h]
  simp only [List.append_assoc]
theorem rep_snoc (L : List Int) (j : Nat) : L ++ List.replicate j 48 ++ [48] = L ++ List.replicate (j + 1) 48 := by
  rw [List.append_assoc, List.replicate_succ']

set_option maxHeartbeats 1000000 in
theorem app_short_pos (ao : Option Addr) (n cap : Nat) (D : List Int) (hD : D.length = n) (P : Nat) (hP : P ≤ 65536) (hP0 : 0 < P) (hle : n ≤ P) (w : World) (hnone : ao = none → n = 0 ∧ cap = 0)
    (hc : ∀ ad, ao = some ad → ∀ j, j < n → w.cell? (ad.add j) = some (.int .u8 (D.getD j 0))) :
    Calls Try.prog 26 #[.slice none 0 0, .slice ao n cap, .int .i64 P, .bool false] w fun e w' => ∃ v, e = .returned v ∧ w'.ownsRow w.heap.size 5 1 v (Plain.out false D P).length (ints (Plain.out false D P)) ∧ Below w.heap.size w w' := by
  have hout := out_short false (D := D) (P := P) (by omega) (by omega)
  rw [hD] at hout
  have hlen : (Plain.out false D P).length = 0 + 2 + (P - n) + n := by
    rw [hout, List.length_append, List.length_append, List.length_append, List.length_replicate, hD]; rfl
  have Hlen : Hid ((Plain.out false D P).length = 0 + 2 + (P - n) + n) := hlen
  have Hout : Hid (Plain.out false D P = Plain.sign false ++ [48, 46] ++ List.replicate (P - n) 48 ++ D) := hout
  have HD : Hid (D.length = n) := hD
  have Hc : Hid (∀ ad, ao = some ad → ∀ j, j < n → w.cell? (ad.add j) = some (.int .u8 (D.getD j 0))) := hc
  clear hD hc hout hlen
  have hp0 : ((P : Int) == 0) = false := beq_eq_false_iff_ne.2 (by omega)
  go_enter Try.func26, Try.ntmps26
  go_wp2_with (first
    | (at_builtin; refine append_src rfl (.tmp 25) (.tmp 26) rfl w.heap.size _ 0 (Plain.sign false) rfl (World.ownsRow_nil _ _ _ _) _ 2 2 [48, 46] rfl rfl some_none (two_new _ _ _ _) (by omega) (by simp) ?_; intro v2 w2 ho2 hb2; have hb2' : Hid (Below w.heap.size w w2) := ((Below.refl _ _).alloc (Nat.le_refl _) _).trans hb2; have Ho2 : Hid (w2.ownsRow w.heap.size 5 1 v2 (0 + 2) (ints (Plain.sign false ++ [48, 46]))) := ho2; clear hb2 ho2))
  go_loopw [0, 9] (fun v c wr => ∃ j : Nat, j ≤ P - n ∧ c = .int .i64 ((j : Int) + n - P) ∧ Hid (wr.ownsRow w.heap.size 5 1 v (0 + 2 + j) (ints (Plain.sign false ++ [48, 46] ++ List.replicate j 48))) ∧ Hid (Below w.heap.size w wr)) (fun _ c _ => (- intOf c).toNat)
  case atStart =>
    refine ⟨0, Nat.zero_le _, by congr 1; omega, ?_, hb2'⟩
    rw [List.replicate_zero, List.append_nil]
    exact Ho2
  case round =>
    obtain ⟨j, hj, rfl, ho, hb⟩ := hrel
    by_cases hlt : j < P - n
    · go_wp2_with (at_builtin; refine append_src rfl (.tmp 32) (.tmp 33) rfl w.heap.size _ _ _ rfl (ho.out.alloc _) _ 1 1 [48] rfl rfl some_none (one_new _ _ _) (by omega) (by have := hb.out.size; simp; omega) ?_; intro v3 w3 ho3 hb3; rw [rep_snoc] at ho3; have Ho3 : Hid (w3.ownsRow w.heap.size 5 1 v3 (0 + 2 + j + 1) (ints (Plain.sign false ++ [48, 46] ++ List.replicate (j + 1) 48))) := ho3; have hb3' : Hid (Below w.heap.size w w3) := (hb.out.alloc hb.out.size _).trans hb3; clear ho3 hb3)
      exact ⟨⟨j + 1, by omega, by congr 1; omega, Ho3, hb3'⟩, by simp [intOf]; omega⟩
    · have e : j = P - n := by omega
      have Ho : Hid (wr.ownsRow w.heap.size 5 1 u0 (0 + 2 + (P - n)) (ints (Plain.sign false ++ [48, 46] ++ List.replicate (P - n) 48))) := by
        have := ho.out
        rw [e] at this
        exact this
      clear e ho
      go_wp2_with (at_builtin; refine append_src rfl (.tmp 35) (.tmp 36) rfl w.heap.size _ _ _ rfl Ho.out ao n cap D rfl HD.out hnone (older hb.out Hc.out) (by omega) hb.out.size ?_; intro v4 w4 ho4 hb4)
      go_ret
      refine ⟨_, rfl, ?_, hb.out.trans hb4⟩
      rw [Hlen.out, Hout.out]
      exact ho4

set_option maxHeartbeats 1000000 in
theorem app_short_neg (ao : Option Addr) (n cap : Nat) (D : List Int) (hD : D.length = n) (P : Nat) (hP : P ≤ 65536) (hP0 : 0 < P) (hle : n ≤ P) (w : World) (hnone : ao = none → n = 0 ∧ cap = 0)
    (hc : ∀ ad, ao = some ad → ∀ j, j < n → w.cell? (ad.add j) = some (.int .u8 (D.getD j 0))) :
    Calls Try.prog 26 #[.slice none 0 0, .slice ao n cap, .int .i64 P, .bool true] w fun e w' => ∃ v, e = .returned v ∧ w'.ownsRow w.heap.size 5 1 v (Plain.out true D P).length (ints (Plain.out true D P)) ∧ Below w.heap.size w w' := by
  have hout := out_short true (D := D) (P := P) (by omega) (by omega)
  rw [hD] at hout
  have hlen : (Plain.out true D P).length = 1 + 2 + (P - n) + n := by
    rw [hout, List.length_append, List.length_append, List.length_append, List.length_replicate, hD]; rfl
  have Hlen : Hid ((Plain.out true D P).length = 1 + 2 + (P - n) + n) := hlen
  have Hout : Hid (Plain.out true D P = Plain.sign true ++ [48, 46] ++ List.replicate (P - n) 48 ++ D) := hout
  have HD : Hid (D.length = n) := hD
  have Hc : Hid (∀ ad, ao = some ad → ∀ j, j < n → w.cell? (ad.add j) = some (.int .u8 (D.getD j 0))) := hc
  clear hD hc hout hlen
  have hp0 : ((P : Int) == 0) = false := beq_eq_false_iff_ne.2 (by omega)
  go_enter Try.func26, Try.ntmps26
  go_wp2_with (first
    | (at_builtin; refine append_src rfl (.tmp 11) (.tmp 12) rfl w.heap.size _ 0 [] rfl (World.ownsRow_nil _ _ _ _) _ 1 1 [45] rfl rfl some_none (one_new _ _ _) (by omega) (by simp) ?_; intro v1 w1 ho1 hb1; have hb1' : Hid (Below w.heap.size w w1) := ((Below.refl _ _).alloc (Nat.le_refl _) _).trans hb1; have Ho1 : Hid (w1.ownsRow w.heap.size 5 1 v1 1 (ints (Plain.sign true))) := ho1; clear hb1 ho1)
    | (at_builtin; refine append_src rfl (.tmp 25) (.tmp 26) rfl w.heap.size _ 1 (Plain.sign true) rfl (Ho1.out.alloc _) _ 2 2 [48, 46] rfl rfl some_none (two_new _ _ _ _) (by omega) (by have := hb1'.out.size; simp; omega) ?_; intro v2 w2 ho2 hb2; have hb2' : Hid (Below w.heap.size w w2) := (hb1'.out.alloc hb1'.out.size _).trans hb2; have Ho2 : Hid (w2.ownsRow w.heap.size 5 1 v2 (1 + 2) (ints (Plain.sign true ++ [48, 46]))) := ho2; clear hb2 ho2))
  go_loopw [0, 9] (fun v c wr => ∃ j : Nat, j ≤ P - n ∧ c = .int .i64 ((j : Int) + n - P) ∧ Hid (wr.ownsRow w.heap.size 5 1 v (1 + 2 + j) (ints (Plain.sign true ++ [48, 46] ++ List.replicate j 48))) ∧ Hid (Below w.heap.size w wr)) (fun _ c _ => (- intOf c).toNat)
  case atStart =>
    refine ⟨0, Nat.zero_le _, by congr 1; omega, ?_, hb2'⟩
    rw [List.replicate_zero, List.append_nil]
    exact Ho2
  case round =>
    obtain ⟨j, hj, rfl, ho, hb⟩ := hrel
    by_cases hlt : j < P - n
    · go_wp2_with (at_builtin; refine append_src rfl (.tmp 32) (.tmp 33) rfl w.heap.size _ _ _ rfl (ho.out.alloc _) _ 1 1 [48] rfl rfl some_none (one_new _ _ _) (by omega) (by have := hb.out.size; simp; omega) ?_; intro v3 w3 ho3 hb3; rw [rep_snoc] at ho3; have Ho3 : Hid (w3.ownsRow w.heap.size 5 1 v3 (1 + 2 + j + 1) (ints (Plain.sign true ++ [48, 46] ++ List.replicate (j + 1) 48))) := ho3; have hb3' : Hid (Below w.heap.size w w3) := (hb.out.alloc hb.out.size _).trans hb3; clear ho3 hb3)
      exact ⟨⟨j + 1, by omega, by congr 1; omega, Ho3, hb3'⟩, by simp [intOf]; omega⟩
    · have e : j = P - n := by omega
      have Ho : Hid (wr.ownsRow w.heap.size 5 1 u0 (1 + 2 + (P - n)) (ints (Plain.sign true ++ [48, 46] ++ List.replicate (P - n) 48))) := by
        have := ho.out
        rw [e] at this
        exact this
      clear e ho
      go_wp2_with (at_builtin; refine append_src rfl (.tmp 35) (.tmp 36) rfl w.heap.size _ _ _ rfl Ho.out ao n cap D rfl HD.out hnone (older hb.out Hc.out) (by omega) hb.out.size ?_; intro v4 w4 ho4 hb4)
      go_ret
      refine ⟨_, rfl, ?_, hb.out.trans hb4⟩
      rw [Hlen.out, Hout.out]
      exact ho4

end Go.Proofs.Qxb6602428a
