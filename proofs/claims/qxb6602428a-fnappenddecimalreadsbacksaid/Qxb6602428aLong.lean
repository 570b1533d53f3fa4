/-
  THE WALK of appendDecimal where digits are more than places: the point is set between them.
-/
import Derived.Test.Qxb6602428aShort
namespace Go.Proofs.Qxb6602428a
open Go.RowKit Go.PlainAid

theorem out_long (neg : Bool) {D : List Int} {P : Nat} (h0 : P ≠ 0) (h : ¬ D.length ≤ P) : Plain.out neg D P = Plain.sign neg ++ D.take (D.length - P) ++ [46] ++ D.drop (D.length - P) := by
  unfold Plain.out
  rw [Plain.body_long h0 h]
  simp only [List.append_assoc]
theorem take_cells {w w1 : World} {g n k : Nat} {D : List Int} (hb : Below w.heap.size w w1) (hk : k ≤ n) (hc : ∀ j, j < n → w.cell? ⟨g, j, none⟩ = some (.int .u8 (D.getD j 0))) :
    ∀ ad, some (⟨g, 0, none⟩ : Addr) = some ad → ∀ j, j < k → w1.cell? (ad.add j) = some (.int .u8 ((D.take k).getD j 0)) := by
  intro ad h j hj
  obtain rfl := Option.some.inj h
  rw [Addr.add_lit, Nat.zero_add, hb.cell (Lib.lt_of_cell (hc j (by omega))), hc j (by omega)]
  rw [List.getD_eq_getElem?_getD, List.getD_eq_getElem?_getD, List.getElem?_take, if_pos hj]
theorem drop_cells {w w1 : World} {g n k : Nat} {D : List Int} (hb : Below w.heap.size w w1) (hc : ∀ j, j < n → w.cell? ⟨g, j, none⟩ = some (.int .u8 (D.getD j 0))) :
    ∀ ad, some (⟨g, k, none⟩ : Addr) = some ad → ∀ j, j < n - k → w1.cell? (ad.add j) = some (.int .u8 ((D.drop k).getD j 0)) := by
  intro ad h j hj
  obtain rfl := Option.some.inj h
  rw [Addr.add_lit, hb.cell (Lib.lt_of_cell (hc (k + j) (by omega))), hc (k + j) (by omega)]
  rw [List.getD_eq_getElem?_getD, List.getD_eq_getElem?_getD, List.getElem?_drop]

set_option maxHeartbeats 1000000 in
theorem app_long_pos (g n cap : Nat) (D : List Int) (hD : D.length = n) (hn : n ≤ 524288) (hcap : n ≤ cap) (hcm : cap ≤ 524288) (P : Nat) (hP0 : 0 < P) (hle : P < n) (w : World)
    (hc : ∀ j, j < n → w.cell? ⟨g, j, none⟩ = some (.int .u8 (D.getD j 0))) :
    Calls Try.prog 26 #[.slice none 0 0, .slice (some ⟨g, 0, none⟩) n cap, .int .i64 P, .bool false] w fun e w' => ∃ v, e = .returned v ∧ w'.ownsRow w.heap.size 5 1 v (Plain.out false D P).length (ints (Plain.out false D P)) ∧ Below w.heap.size w w' := by
  have hout := out_long false (D := D) (P := P) (by omega) (by omega)
  rw [hD] at hout
  have hlen : (Plain.out false D P).length = 0 + (n - P) + 1 + P := by
    rw [hout, List.length_append, List.length_append, List.length_append, List.length_take, List.length_drop, hD]
    simp [Plain.sign]
    omega
  have Hlen : Hid ((Plain.out false D P).length = 0 + (n - P) + 1 + P) := hlen
  have Hout : Hid (Plain.out false D P = Plain.sign false ++ D.take (n - P) ++ [46] ++ D.drop (n - P)) := hout
  have HD : Hid (D.length = n) := hD
  have Hc : Hid (∀ j, j < n → w.cell? ⟨g, j, none⟩ = some (.int .u8 (D.getD j 0))) := hc
  clear hD hc hout hlen
  have hp0 : ((P : Int) == 0) = false := beq_eq_false_iff_ne.2 (by omega)
  go_enter Try.func26, Try.ntmps26
  go_wp2_with (first
    | (at_builtin; refine append_src rfl (.tmp 38) (.tmp 41) rfl w.heap.size _ 0 (Plain.sign false) rfl (World.ownsRow_nil _ _ _ _) _ (n - P) _ (D.take (n - P)) rfl (by rw [List.length_take, HD.out]; omega) some_none (take_cells (Below.refl _ _) (by omega) Hc.out) (by omega) (Nat.le_refl _) ?_; intro v2 w2 ho2 hb2; have hb2' : Hid (Below w.heap.size w w2) := hb2; have Ho2 : Hid (w2.ownsRow w.heap.size 5 1 v2 (0 + (n - P)) (ints (Plain.sign false ++ D.take (n - P)))) := ho2; clear hb2 ho2)
    | (at_builtin; refine append_src rfl (.tmp 43) (.tmp 44) rfl w.heap.size _ _ _ rfl (Ho2.out.alloc _) _ 1 1 [46] rfl rfl some_none (one_new _ _ _) (by omega) (by have := hb2'.out.size; simp; omega) ?_; intro v3 w3 ho3 hb3; have hb3' : Hid (Below w.heap.size w w3) := (hb2'.out.alloc hb2'.out.size _).trans hb3; have Ho3 : Hid (w3.ownsRow w.heap.size 5 1 v3 (0 + (n - P) + 1) (ints (Plain.sign false ++ D.take (n - P) ++ [46]))) := ho3; clear ho3 hb3)
    | (at_builtin; refine append_src rfl (.tmp 46) (.tmp 49) rfl w.heap.size _ _ _ rfl Ho3.out _ (n - (n - P)) _ (D.drop (n - P)) rfl (by rw [List.length_drop, HD.out]) some_none (drop_cells hb3'.out Hc.out) (by omega) hb3'.out.size ?_; intro v4 w4 ho4 hb4))
  go_ret
  refine ⟨_, rfl, ?_, hb3'.out.trans hb4⟩
  rw [Hlen.out, Hout.out]
  rw [show n - (n - P) = P by omega] at ho4
  exact ho4

set_option maxHeartbeats 1000000 in
theorem app_long_neg (g n cap : Nat) (D : List Int) (hD : D.length = n) (hn : n ≤ 524288) (hcap : n ≤ cap) (hcm : cap ≤ 524288) (P : Nat) (hP0 : 0 < P) (hle : P < n) (w : World)
    (hc : ∀ j, j < n → w.cell? ⟨g, j, none⟩ = some (.int .u8 (D.getD j 0))) :
    Calls Try.prog 26 #[.slice none 0 0, .slice (some ⟨g, 0, none⟩) n cap, .int .i64 P, .bool true] w fun e w' => ∃ v, e = .returned v ∧ w'.ownsRow w.heap.size 5 1 v (Plain.out true D P).length (ints (Plain.out true D P)) ∧ Below w.heap.size w w' := by
  have hout := out_long true (D := D) (P := P) (by omega) (by omega)
  rw [hD] at hout
  have hlen : (Plain.out true D P).length = 1 + (n - P) + 1 + P := by
    rw [hout, List.length_append, List.length_append, List.length_append, List.length_take, List.length_drop, hD]
    simp [Plain.sign]
    omega
  have Hlen : Hid ((Plain.out true D P).length = 1 + (n - P) + 1 + P) := hlen
  have Hout : Hid (Plain.out true D P = Plain.sign true ++ D.take (n - P) ++ [46] ++ D.drop (n - P)) := hout
  have HD : Hid (D.length = n) := hD
  have Hc : Hid (∀ j, j < n → w.cell? ⟨g, j, none⟩ = some (.int .u8 (D.getD j 0))) := hc
  clear hD hc hout hlen
  have hp0 : ((P : Int) == 0) = false := beq_eq_false_iff_ne.2 (by omega)
  go_enter Try.func26, Try.ntmps26
  go_wp2_with (first
    | (at_builtin; refine append_src rfl (.tmp 11) (.tmp 12) rfl w.heap.size _ 0 [] rfl (World.ownsRow_nil _ _ _ _) _ 1 1 [45] rfl rfl some_none (one_new _ _ _) (by omega) (by simp) ?_; intro v1 w1 ho1 hb1; have hb1' : Hid (Below w.heap.size w w1) := ((Below.refl _ _).alloc (Nat.le_refl _) _).trans hb1; have Ho1 : Hid (w1.ownsRow w.heap.size 5 1 v1 1 (ints (Plain.sign true))) := ho1; clear hb1 ho1)
    | (at_builtin; refine append_src rfl (.tmp 38) (.tmp 41) rfl w.heap.size _ 1 (Plain.sign true) rfl Ho1.out _ (n - P) _ (D.take (n - P)) rfl (by rw [List.length_take, HD.out]; omega) some_none (take_cells hb1'.out (by omega) Hc.out) (by omega) hb1'.out.size ?_; intro v2 w2 ho2 hb2; have hb2' : Hid (Below w.heap.size w w2) := hb1'.out.trans hb2; have Ho2 : Hid (w2.ownsRow w.heap.size 5 1 v2 (1 + (n - P)) (ints (Plain.sign true ++ D.take (n - P)))) := ho2; clear hb2 ho2)
    | (at_builtin; refine append_src rfl (.tmp 43) (.tmp 44) rfl w.heap.size _ _ _ rfl (Ho2.out.alloc _) _ 1 1 [46] rfl rfl some_none (one_new _ _ _) (by omega) (by have := hb2'.out.size; simp; omega) ?_; intro v3 w3 ho3 hb3; have hb3' : Hid (Below w.heap.size w w3) := (hb2'.out.alloc hb2'.out.size _).trans hb3; have Ho3 : Hid (w3.ownsRow w.heap.size 5 1 v3 (1 + (n - P) + 1) (ints (Plain.sign true ++ D.take (n - P) ++ [46]))) := ho3; clear ho3 hb3)
    | (at_builtin; refine append_src rfl (.tmp 46) (.tmp 49) rfl w.heap.size _ _ _ rfl Ho3.out _ (n - (n - P)) _ (D.drop (n - P)) rfl (by rw [List.length_drop, HD.out]) some_none (drop_cells hb3'.out Hc.out) (by omega) hb3'.out.size ?_; intro v4 w4 ho4 hb4))
  go_ret
  refine ⟨_, rfl, ?_, hb3'.out.trans hb4⟩
  rw [Hlen.out, Hout.out]
  rw [show n - (n - P) = P by omega] at ho4
  exact ho4

end Go.Proofs.Qxb6602428a
