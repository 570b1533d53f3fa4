/-
  THE WALK of the law where digits is nil and places is not 0.
-/
import Derived.Test.Qxb6602428aMain
namespace Go.Proofs.Qxb6602428a
open Go.RowKit Go.PlainAid

set_option maxRecDepth 100000 in
set_option maxHeartbeats 2000000 in
theorem main_nil (P : Nat) (hP : P ≤ 65536) (hP0 : 0 < P) (neg : Bool) (m : Int) (w : World) (hm : w.cell? ⟨0, 0, none⟩ = some (.int .i64 m)) :
    Calls Try.prog 8 #[.slice none 0 0, .int .i64 P, .bool neg] w fun e w' => e = .returned (.bool true) ∧ Below w.heap.size w w' := by
  obtain ⟨i0, hinf, hz0, hz1, hz2⟩ := info_parts Try.info5
  have hall : Plain.AllDig [] := fun c hc => by cases hc
  have hne : ¬ (([] : List Int).length = 0 ∧ P = 0) := by omega
  have h00 : 0 < w.heap.size := Lib.lt_of_cell hm
  have hz : Calls Try.prog 22 #[.slice none 0 0, .int .i64 P, .bool neg] w fun e w' => e = .returned (.bool true) ∧ w = w' := (bytes_small none 0 0 (by omega) P neg w).mono (fun e w' h => ⟨h.1, h.2.symm⟩)
  have hcl : Calls Try.prog 18 #[.slice none 0 0] w fun e w' => e = .returned (.slice none 0 0) ∧ w = w' := (clone_nil w).mono (fun e w' h => ⟨h.1, h.2.symm⟩)
  have hp0 : ((P : Int) == 0) = false := beq_eq_false_iff_ne.2 (by omega)
  have hzz := zzapp neg _ [] P w (app_nil neg P hP w)
  obtain ⟨hhd, hlp⟩ := out_head neg hall P hne
  have hpl : ∀ W, Calls Try.prog 10 #[.string (strOfNums (Plain.out neg [] P))] W fun e w' => e = .returned (.bool true) ∧ W = w' := fun W =>
    (zzplain neg (Plain.body [] P) (Plain.body_head hall P hne) (Plain.body_bytes hall P) (Plain.body_some hall P hne) (Plain.body_points hall P) (by have := Plain.body_length_le [] P; simp at this; omega) W).mono (fun e w' h => ⟨h.1, h.2.symm⟩)
  have hpc := fun W h => zzplaces neg [] hall (by simp) P hP m W h
  have hsz := str_size (Plain.out neg [] P)
  have hbt := fun k hk => str_bt (Plain.out_range hall neg P) k hk
  have hfil := Plain.out_digits hall neg P
  have hll := Plain.out_length_le neg [] P
  have hstr0 := fun (w2 : World) (g2 cap2 : Nat) (hc2 : ∀ j, j < (Plain.out neg [] P).length → w2.cell? ⟨g2, j, none⟩ = some (.int .u8 ((Plain.out neg [] P).getD j 0))) => row_string (w := w2) (g := g2) (cap := cap2) (L := Plain.out neg [] P) rfl hc2
  generalize Plain.out neg [] P = L at *
  have hlL : L.length ≤ 600000 := by simp at hll; omega
  generalize strOfNums L = s at *
  have hg := get_bt s
  have hbt0 : bt s 0 = L.getD 0 0 := hbt 0 hlp
  rw [List.append_nil] at hfil
  have Hbt : Hid (∀ k, k < L.length → bt s k = L.getD k 0) := hbt
  have Hfil : Hid (L.filter Plain.dig = List.replicate (Plain.front [] P) 48) := hfil
  have Hsz : Hid (s.size = L.length) := hsz
  have hss : s.size ≤ 600000 := by omega
  have hsp : 0 < s.size := by omega
  rw [← hbt0] at hhd
  have Hm : Hid (w.cell? ⟨0, 0, none⟩ = some (.int .i64 m)) := hm
  have Hlp : Hid (0 < L.length) := hlp
  clear hbt hfil hsz hll hbt0 hlL hm hall hne hlp
  generalize Plain.front [] P = f at *
  have Hstr0 : Hid (∀ (w2 : World) (g2 cap2 : Nat), (∀ j, j < L.length → w2.cell? ⟨g2, j, none⟩ = some (.int .u8 (L.getD j 0))) → (convert 25 9 (.slice (some ⟨g2, 0, none⟩) L.length cap2)).run Try.prog w2 = .ok (.string s) w2) := hstr0
  clear hstr0
  go_enter Try.func8, Try.ntmps8
  go_wp2_with (go_at_call 22; refine hz.mono ?_; rintro e w1 ⟨rfl, rfl⟩)
  refine wp_loop_rounds 1 ?_
  rw [rounds_succ]
  go_wp2_with fail
  refine hcl.mono ?_
  rintro e w1 ⟨rfl, rfl⟩
  go_wp2_with fail
  refine hzz.mono ?_
  rintro e w2 ⟨v2, rfl, ho2, hb2⟩
  obtain ⟨g2, cap2, hv2, hg2, hc2⟩ := row_shape ho2 Hlp.out
  rw [hv2]
  have hstr := Hstr0.out w2 g2 cap2 hc2
  have Hb2 : Hid (Below w.heap.size w w2) := hb2
  have hm2 : w2.cell? ⟨0, 0, none⟩ = some (.int .i64 m) := by rw [hb2.cell (show 0 < w.heap.size by omega)]; exact Hm.out
  clear ho2 hb2 hv2 hc2
  go_wp2_with fail
  refine (hpl _).mono ?_
  rintro e w3 ⟨rfl, rfl⟩
  go_wp2_with fail
  refine (hpc _ hm2).mono ?_
  rintro e w3 ⟨rfl, k3, rfl⟩
  go_wp2_with (at_make; refine wpList_make_own _ rfl (.const (.int .i64 0)) (.tmp 72) 25 rfl w2.heap.size 5 i0 (.int .u8 0) 1 Try.underlying25 hinf hz0 hz1 .i64 .i64 _ s.size rfl rfl rfl (by rw [hz2]; omega) (by unfold maxLen; omega) (Nat.le_refl _) ?_; intro w4 ho4 hg4)
  have hb4 : Below w2.heap.size w2 w4 := (below_drewN (Below.refl w2.heap.size w2) k3).grown hg4 (Nat.le_refl _) (fun j hj => by cases hj)
  have Ho4 : Hid (w4.ownsRow w2.heap.size 5 1 (.slice (some ⟨w2.heap.size, 0, none⟩) 0 s.size) 0 (ints [])) := ho4
  have Hb4 : Hid (Below w2.heap.size w2 w4) := hb4
  clear ho4 hg4 hb4
  go_wp2_with fail
  go_loopw [9, 10] (fun r v wr => ∃ i : Nat, i ≤ s.size ∧ v = .int .i64 i ∧ r = .slice (some ⟨w2.heap.size, 0, none⟩) ((L.take i).filter Plain.dig).length s.size ∧ Hid (wr.ownsRow w2.heap.size 5 1 (.slice (some ⟨w2.heap.size, 0, none⟩) ((L.take i).filter Plain.dig).length s.size) ((L.take i).filter Plain.dig).length (ints ((L.take i).filter Plain.dig))) ∧ Hid (Below w2.heap.size w2 wr)) (fun _ v _ => s.size - (intOf v).toNat)
  case atStart => exact ⟨0, Nat.zero_le _, rfl, rfl, Ho4, Hb4⟩
  case round =>
    obtain ⟨i, hi, rfl, rfl, ho, hb⟩ := hrel
    have l1 := Plain.filter_len_le Plain.dig L i
    by_cases hlt : i < s.size
    · have hiL : i < L.length := by have := Hsz.out; omega
      have e1 := Hbt.out i hiL
      cases hdg : Plain.dig (L.getD i 0) with
      | true =>
        have f1 := Plain.filter_yes hiL hdg
        rw [← e1] at f1 hdg
        have F1 : Hid ((L.take (i + 1)).filter Plain.dig = (L.take i).filter Plain.dig ++ [bt s i]) := f1
        clear f1 e1
        generalize (L.take i).filter Plain.dig = F at *
        go_wp2_with fail
        refine (isdig_any _ _).mono ?_
        rintro e w5 ⟨rfl, rfl⟩
        rw [hdg]
        go_wp2_with (at_builtin; refine append_in rfl (.tmp 84) (.tmp 88) rfl w2.heap.size _ _ _ F rfl (ho.out.alloc _) _ (bt s i) rfl (one_cell _ _ _) (by omega) (by have := hb.out.size; simp; omega) ?_; intro w6 ho6 hb6)
        have hb6' : Below w2.heap.size w2 w6 := (hb.out.alloc hb.out.size _).trans hb6
        refine ⟨⟨i + 1, by omega, rfl, by rw [F1.out, List.length_append]; rfl, ?_, hb6'⟩, by simp [intOf]; omega⟩
        rw [F1.out, List.length_append]
        exact ho6
      | false =>
        have f1 := Plain.filter_nope hiL hdg
        rw [← e1] at hdg
        have F1 : Hid ((L.take (i + 1)).filter Plain.dig = (L.take i).filter Plain.dig) := f1
        clear f1 e1
        generalize (L.take i).filter Plain.dig = F at *
        go_wp2_with fail
        refine (isdig_any _ _).mono ?_
        rintro e w5 ⟨rfl, rfl⟩
        rw [hdg]
        go_wp2_with fail
        refine ⟨⟨i + 1, by omega, rfl, by rw [F1.out], ?_, hb⟩, by simp [intOf]; omega⟩
        rw [F1.out]
        exact ho
    · have e : (L.take i).filter Plain.dig = List.replicate f 48 := by
        rw [List.take_of_length_le (by have := Hsz.out; omega)]
        exact Hfil.out
      rw [e] at ho l1
      rw [e]
      have hFl : (List.replicate f (48 : Int)).length = f := List.length_replicate
      have Z1 : Hid (∀ j, j < f → wr.cell? ⟨w2.heap.size, j, none⟩ = some (.int .u8 48)) := fun j hj => by
        rw [ho.out.cellAt j (by rw [hFl]; omega), ints_get (by rw [hFl]; exact hj), List.getD_eq_getElem?_getD, List.getElem?_replicate, if_pos hj]
        rfl
      rw [hFl] at l1
      rw [hFl]
      clear e ho hFl
      have hfl : f ≤ 600000 := by omega
      have HB : Hid (Below w.heap.size w wr) := Hb2.out.trans (hb.out.mono (by have := Hb2.out.size; omega))
      go_wp2_with fail
      go_loop [12] (fun v => ∃ j : Nat, j ≤ f ∧ v = .int .i64 j) (fun v => f - (intOf v).toNat)
      case atStart => exact ⟨0, Nat.zero_le _, rfl⟩
      case round =>
        obtain ⟨j, hj, rfl⟩ := hrel
        by_cases hjf : j < f
        · have hcx := Z1.out j hjf
          go_wp2_with fail
          exact ⟨⟨j + 1, by omega, rfl⟩, by simp [intOf]; omega⟩
        · go_wp2_with fail
          refine wp_loop_rounds 1 ?_
          rw [rounds_succ]
          go_wp2_with fail
          go_ret
          exact ⟨rfl, HB.out⟩

/-- THE LAW AT EVERY INPUT, as the row hands it. -/
theorem walk_all (a0 : Option Addr) (len0 cap0 : Nat) (z0 : List Int) (a1 : Int) (a2 : Bool) (m : Int) (w : World) (hm : w.cell? ⟨0, 0, none⟩ = some (.int .i64 m))
    (w0 : (a0 = none ∧ len0 = 0 ∧ cap0 = 0) ∨ ∃ x, a0 = some x ∧ len0 ≤ z0.length ∧ (∀ i, i < z0.length → w.cell? (x.add i) = some (.int .u8 (z0.getD i 0)))) :
    Calls Try.prog 8 #[.slice a0 len0 cap0, .int .i64 a1, .bool a2] w fun e w' => e = .returned (.bool true) ∧ Below w.heap.size w w' := by
  by_cases h1 : 524288 < len0
  · exact law_big a0 len0 cap0 h1 a1 a2 w
  · by_cases h2 : a1 < 0 ∨ 65536 < a1
    · exact law_places a0 len0 cap0 (by omega) a1 h2 a2 w
    · obtain ⟨P, rfl⟩ := Int.eq_ofNat_of_zero_le (show 0 ≤ a1 by omega)
      by_cases h3 : len0 = 0 ∧ P = 0
      · obtain ⟨rfl, rfl⟩ := h3
        exact law_none a0 cap0 a2 w
      · rcases w0 with ⟨rfl, rfl, rfl⟩ | ⟨x, rfl, hle, hc⟩
        · exact main_nil P (by omega) (by omega) a2 m w hm
        · have hD : (z0.take len0).length = len0 := by rw [List.length_take]; omega
          have hcD : ∀ i, i < len0 → w.cell? (x.add i) = some (.int .u8 ((z0.take len0).getD i 0)) := fun i hi => by
            rw [hc i (by omega), List.getD_eq_getElem?_getD, List.getD_eq_getElem?_getD, List.getElem?_take, if_pos hi]
          by_cases hall : Plain.AllDig (z0.take len0)
          · exact main_some x len0 cap0 (by omega) (z0.take len0) hD hall P (by omega) h3 a2 m w hm hcD
          · have hex : ∃ i, i < len0 ∧ Plain.dig ((z0.take len0).getD i 0) = false ∧ ∀ j, j < i → Plain.dig ((z0.take len0).getD j 0) = true := by
              have hsome : ∃ i, i < len0 ∧ Plain.dig ((z0.take len0).getD i 0) = false := by
                apply Classical.byContradiction
                intro hno
                apply hall
                intro c hcm
                obtain ⟨i, hi, rfl⟩ := List.getElem_of_mem hcm
                cases hd : Plain.dig (z0.take len0)[i] with
                | true => rfl
                | false =>
                  exfalso
                  refine hno ⟨i, by omega, ?_⟩
                  rw [List.getD_eq_getElem?_getD, List.getElem?_eq_getElem hi]
                  exact hd
              have least : ∀ n, (∃ i, i < n ∧ i < len0 ∧ Plain.dig ((z0.take len0).getD i 0) = false) → ∃ i, i < len0 ∧ Plain.dig ((z0.take len0).getD i 0) = false ∧ ∀ j, j < i → Plain.dig ((z0.take len0).getD j 0) = true := by
                intro n
                induction n with
                | zero => rintro ⟨i, hi, _⟩; omega
                | succ n ih =>
                  rintro ⟨i, hi, hil, hd⟩
                  by_cases hb : ∃ j, j < n ∧ j < len0 ∧ Plain.dig ((z0.take len0).getD j 0) = false
                  · exact ih hb
                  · refine ⟨i, hil, hd, ?_⟩
                    intro j hj
                    cases hdj : Plain.dig ((z0.take len0).getD j 0) with
                    | true => rfl
                    | false => exact absurd ⟨j, by omega, by omega, hdj⟩ hb
              obtain ⟨i, hi, hd⟩ := hsome
              exact least (i + 1) ⟨i, by omega, hi, hd⟩
            obtain ⟨i, hi, hd, hbf⟩ := hex
            exact law_other x len0 cap0 (by omega) (z0.take len0) hD P (by omega) a2 w hcD i hi hd hbf
end Go.Proofs.Qxb6602428a
