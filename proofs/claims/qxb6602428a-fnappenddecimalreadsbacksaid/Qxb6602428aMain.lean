/-
  THE WALK of the law on its main road: digits that came in, all of them digits.
-/
import Derived.Test.Qxb6602428aLaw
namespace Go.Proofs.Qxb6602428a
open Go.RowKit Go.PlainAid

/-- The first byte tells the sign. -/
theorem out_head (neg : Bool) {D : List Int} (h : Plain.AllDig D) (P : Nat) (hne : ¬ (D.length = 0 ∧ P = 0)) : ((Plain.out neg D P).getD 0 0 == 45) = neg ∧ 0 < (Plain.out neg D P).length := by
  obtain ⟨c, r, hb, hd⟩ := Plain.body_head h P hne
  unfold Plain.out
  rw [hb]
  cases neg with
  | true => exact ⟨rfl, by simp [Plain.sign]⟩
  | false =>
    refine ⟨?_, by simp [Plain.sign]⟩
    have := Plain.dig_iff.1 hd
    show (c == 45) = false
    rw [beq_eq_false_iff_ne]
    omega

/-- 'append' of one byte within the capacity: the value is known. -/
theorem append_in {w : World} {ops : Array Oper} {rest : List Oper} {o : Oper} {a : Act} {Q : Exit → Act → World → Prop} (hgd : o.guard = none) (s x : Operand)
    (ho : o.op = .call { callee := .builtin .append, args := #[s, x], argTypes := #[25, 25] })
    (base g k cap : Nat) (xs : List Int) (hs : a.eval s = .slice (some ⟨g, 0, none⟩) k cap) (hown : w.ownsRow base 5 1 (.slice (some ⟨g, 0, none⟩) k cap) k (ints xs))
    (ad : Addr) (c : Int) (hx : a.eval x = .slice (some ad) 1 1) (hnew : w.cell? (ad.add 0) = some (.int .u8 c)) (hk : k + 1 ≤ cap) (hbase : base ≤ w.heap.size)
    (h : ∀ w', w'.ownsRow base 5 1 (.slice (some ⟨g, 0, none⟩) (k + 1) cap) (k + 1) (ints (xs ++ [c])) → Below base w w' → wpList Try.prog ops Q rest (a.put o.dst (.slice (some ⟨g, 0, none⟩) (k + 1) cap)) w') : wpList Try.prog ops Q (o :: rest) a w := by
  obtain ⟨i0, hi, hz0, hz1, hz2⟩ := info_parts Try.info5
  refine wpList_append_fits w hgd s x 25 ho base 5 i0 1 Try.underlying25 hi hz1 g k cap (ints xs) hs hown ad 1 1 (ints [c]) hx rfl ?_ (ints_oneCell _ _) hk ?_
  · intro j u hj
    have hj0 : j = 0 := by
      rcases Nat.lt_or_ge j 1 with h1 | h1
      · omega
      · rw [List.getElem?_eq_none (by rw [ints_length]; exact h1)] at hj; cases hj
    subst hj0
    rw [hnew]
    exact hj
  · intro w' h1 h2
    refine h w' ?_ ((Below.refl _ _).grown h2 hbase (fun j hj => by cases hj; exact (hown.lt g rfl).1))
    unfold ints at *
    rw [List.map_append]
    exact h1
theorem one_cell (w : World) (t : TypeId) (c : Int) : (w.alloc (.cells #[.int .u8 c] t)).cell? ((⟨w.heap.size, 0, none⟩ : Addr).add 0) = some (.int .u8 c) := by
  simp [Addr.add]

set_option maxRecDepth 100000 in
set_option maxHeartbeats 2000000 in
theorem main_some (x : Addr) (len cap : Nat) (hl : len ≤ 524288) (D : List Int) (hD : D.length = len) (hall : Plain.AllDig D) (P : Nat) (hP : P ≤ 65536) (hne : ¬ (len = 0 ∧ P = 0)) (neg : Bool) (m : Int) (w : World)
    (hm : w.cell? ⟨0, 0, none⟩ = some (.int .i64 m)) (hc : ∀ i, i < len → w.cell? (x.add i) = some (.int .u8 (D.getD i 0))) :
    Calls Try.prog 8 #[.slice (some x) len cap, .int .i64 P, .bool neg] w fun e w' => e = .returned (.bool true) ∧ Below w.heap.size w w' := by
  obtain ⟨i0, hinf, hz0, hz1, hz2⟩ := info_parts Try.info5
  have h00 : 0 < w.heap.size := Lib.lt_of_cell hm
  have h2 : ¬ (524288 : Int) < (len : Int) := by omega
  have hz : Calls Try.prog 22 #[.slice (some x) len cap, .int .i64 P, .bool neg] w fun e w' => e = .returned (.bool true) ∧ w = w' := (bytes_small (some x) len cap (by omega) P neg w).mono (fun e w' h => ⟨h.1, h.2.symm⟩)
  have hempty : (((len : Int) == 0) = false) ∨ ((((len : Int) == 0) = true) ∧ (((P : Int) == 0) = false)) := by
    by_cases h : len = 0
    · right
      exact ⟨beq_iff_eq.2 (by omega), beq_eq_false_iff_ne.2 (by omega)⟩
    · left
      exact beq_eq_false_iff_ne.2 (by omega)
  have hcl := clone_some x len cap D hD hl w hc
  have HD : Hid (D.length = len) := hD
  have Hall : Hid (Plain.AllDig D) := hall
  have Hne : Hid (¬ (len = 0 ∧ P = 0)) := hne
  have Hc : Hid (∀ i, i < len → w.cell? (x.add i) = some (.int .u8 (D.getD i 0))) := hc
  have Hm : Hid (w.cell? ⟨0, 0, none⟩ = some (.int .i64 m)) := hm
  clear hc hD hall hne hm
  go_enter Try.func8, Try.ntmps8
  rcases hempty with hl0 | ⟨hl0, hp0⟩
  all_goals
    go_wp2_with (go_at_call 22; refine hz.mono ?_; rintro e w1 ⟨rfl, rfl⟩)
    go_loop [7] (fun v => ∃ i : Nat, i ≤ len ∧ v = .int .i64 i) (fun v => len - (intOf v).toNat)
    case atStart => exact ⟨0, Nat.zero_le _, rfl⟩
    case round =>
      obtain ⟨i, hi, rfl⟩ := hrel
      by_cases hlt : i < len
      · have hcx := Hc.out i hlt
        have hd := Hall.out _ (Plain.getD_mem (show i < D.length by rw [HD.out]; exact hlt))
        generalize D.getD i 0 = c at *
        go_wp2_with fail
        refine (isdig_any _ _).mono ?_
        rintro e w2 ⟨rfl, rfl⟩
        rw [hd]
        go_wp2_with fail
        exact ⟨⟨i + 1, by omega, rfl⟩, by simp [intOf]; omega⟩
      · go_wp2_with fail
        refine hcl.mono ?_
        rintro e w1 ⟨rfl, ho1, hb1⟩
        have hs1 : w.heap.size < w1.heap.size := (ho1.lt w.heap.size rfl).2
        have hcD : ∀ j, j < len → w1.cell? ⟨w.heap.size, j, none⟩ = some (.int .u8 (D.getD j 0)) := fun j hj => by
          rw [ho1.cellAt j (by omega)]
          exact ints_get (by rw [HD.out]; exact hj)
        have HcD : Hid (∀ j, j < len → w1.cell? ⟨w.heap.size, j, none⟩ = some (.int .u8 (D.getD j 0))) := hcD
        have Hm1 : Hid (w1.cell? ⟨0, 0, none⟩ = some (.int .i64 m)) := by rw [Hid, hb1.cell h00]; exact Hm.out
        have Hb1 : Hid (Below w.heap.size w w1) := hb1
        have hzz := zzapp neg _ D P w1 (app_some neg w.heap.size len D HD.out hl P hP w1 hcD)
        clear ho1 hcD hb1
        go_wp2_with fail
        refine hzz.mono ?_
        rintro e w2 ⟨v2, rfl, ho2, hb2⟩
        obtain ⟨hhd, hlp⟩ := out_head neg Hall.out P (by rw [HD.out]; exact Hne.out)
        obtain ⟨g2, cap2, hv2, hg2, hc2⟩ := row_shape ho2 hlp
        rw [hv2]
        have hstr := row_string (cap := cap2) (row_shape' ho2) hc2
        have Hb2 : Hid (Below w1.heap.size w1 w2) := hb2
        clear ho2 hb2 hv2 hc2
        have hpl : ∀ W, Calls Try.prog 10 #[.string (strOfNums (Plain.out neg D P))] W fun e w' => e = .returned (.bool true) ∧ W = w' := fun W =>
          (zzplain neg (Plain.body D P) (Plain.body_head Hall.out P (by rw [HD.out]; exact Hne.out)) (Plain.body_bytes Hall.out P) (Plain.body_some Hall.out P (by rw [HD.out]; exact Hne.out)) (Plain.body_points Hall.out P) (by have := Plain.body_length_le D P; have := HD.out; omega) W).mono (fun e w' h => ⟨h.1, h.2.symm⟩)
        have hpc := fun W h => zzplaces neg D Hall.out (by rw [HD.out]; exact hl) P hP m W h
        have hsz := str_size (Plain.out neg D P)
        have hbt := fun k hk => str_bt (Plain.out_range Hall.out neg P) k hk
        have hfil := Plain.out_digits Hall.out neg P
        have hll := Plain.out_length_le neg D P
        generalize Plain.out neg D P = L at *
        have hlL : L.length ≤ 600000 := by have := HD.out; omega
        generalize strOfNums L = s at *
        have hg := get_bt s
        have hbt0 : bt s 0 = L.getD 0 0 := hbt 0 hlp
        have Hbt : Hid (∀ k, k < L.length → bt s k = L.getD k 0) := hbt
        have Hfil : Hid (L.filter Plain.dig = List.replicate (Plain.front D P) 48 ++ D) := hfil
        have Hsz : Hid (s.size = L.length) := hsz
        have hss : s.size ≤ 600000 := by omega
        have hsp : 0 < s.size := by omega
        rw [← hbt0] at hhd
        clear hbt hfil hsz hll hbt0 hlL hlp
        have hm2 : w2.cell? ⟨0, 0, none⟩ = some (.int .i64 m) := by rw [Hb2.out.cell (show 0 < w1.heap.size by omega)]; exact Hm1.out
        go_wp2_with fail
        refine (hpl _).mono ?_
        rintro e w3 ⟨rfl, rfl⟩
        go_wp2_with fail
        refine (hpc _ hm2).mono ?_
        rintro e w3 ⟨rfl, k3, rfl⟩
        go_wp2_with (at_make; refine wpList_make_own _ rfl (.const (.int .i64 0)) (.tmp 72) 25 rfl w2.heap.size 5 i0 (.int .u8 0) 1 Try.underlying25 hinf hz0 hz1 .i64 .i64 _ s.size rfl rfl rfl (by rw [hz2]; omega) (by unfold maxLen; omega) (Nat.le_refl _) ?_; intro w4 ho4 hg4)
        have hb4 : Below w2.heap.size w2 w4 := (below_drewN (Below.refl w2.heap.size w2) k3).grown hg4 (Nat.le_refl _) (fun j hj => by cases hj)
        have Ho4 : Hid (w4.ownsRow w2.heap.size 5 1 (.slice (some ⟨w2.heap.size, 0, none⟩) 0 s.size) 0 (ints [])) := ho4
        have Hb4 : Hid (Below w2.heap.size w2 w4) := hb4
        clear ho4 hg4 hb4
        go_wp2_with fail
        go_loopw [9, 10] (fun r v wr => ∃ i : Nat, i ≤ s.size ∧ v = .int .i64 i ∧ r = .slice (some ⟨w2.heap.size, 0, none⟩) ((L.take i).filter Plain.dig).length s.size ∧ Hid (wr.ownsRow w2.heap.size 5 1 (.slice (some ⟨w2.heap.size, 0, none⟩) ((L.take i).filter Plain.dig).length s.size) ((L.take i).filter Plain.dig).length (ints ((L.take i).filter Plain.dig))) ∧ Hid (Below w2.heap.size w2 wr)) (fun _ v _ => s.size - (intOf v).toNat)
        case atStart => exact ⟨0, Nat.zero_le _, rfl, rfl, Ho4, Hb4⟩
        case round =>
          obtain ⟨i, hi, rfl, rfl, ho, hb⟩ := hrel
          have l1 := Plain.filter_len_le Plain.dig L i
          by_cases hlt : i < s.size
          · have hiL : i < L.length := by have := Hsz.out; omega
            have e1 := Hbt.out i hiL
            cases hdg : Plain.dig (L.getD i 0) with
            | true =>
              have f1 := Plain.filter_yes hiL hdg
              rw [← e1] at f1 hdg
              have F1 : Hid ((L.take (i + 1)).filter Plain.dig = (L.take i).filter Plain.dig ++ [bt s i]) := f1
              clear f1 e1
              generalize (L.take i).filter Plain.dig = F at *
              go_wp2_with fail
              refine (isdig_any _ _).mono ?_
              rintro e w5 ⟨rfl, rfl⟩
              rw [hdg]
              go_wp2_with (at_builtin; refine append_in rfl (.tmp 84) (.tmp 88) rfl w2.heap.size _ _ _ F rfl (ho.out.alloc _) _ (bt s i) rfl (one_cell _ _ _) (by omega) (by have := hb.out.size; simp; omega) ?_; intro w6 ho6 hb6)
              have hb6' : Below w2.heap.size w2 w6 := (hb.out.alloc hb.out.size _).trans hb6
              refine ⟨⟨i + 1, by omega, rfl, by rw [F1.out, List.length_append]; rfl, ?_, hb6'⟩, by simp [intOf]; omega⟩
              rw [F1.out, List.length_append]
              exact ho6
            | false =>
              have f1 := Plain.filter_nope hiL hdg
              rw [← e1] at hdg
              have F1 : Hid ((L.take (i + 1)).filter Plain.dig = (L.take i).filter Plain.dig) := f1
              clear f1 e1
              generalize (L.take i).filter Plain.dig = F at *
              go_wp2_with fail
              refine (isdig_any _ _).mono ?_
              rintro e w5 ⟨rfl, rfl⟩
              rw [hdg]
              go_wp2_with fail
              refine ⟨⟨i + 1, by omega, rfl, by rw [F1.out], ?_, hb⟩, by simp [intOf]; omega⟩
              rw [F1.out]
              exact ho
          · have e : (L.take i).filter Plain.dig = List.replicate (Plain.front D P) 48 ++ D := by
              rw [List.take_of_length_le (by have := Hsz.out; omega)]
              exact Hfil.out
            rw [e] at ho l1
            rw [e]
            have hFl : (List.replicate (Plain.front D P) 48 ++ D).length = Plain.front D P + len := by
              rw [List.length_append, List.length_replicate, HD.out]
            have hz48 : ∀ j, j < Plain.front D P → (List.replicate (Plain.front D P) (48 : Int) ++ D).getD j 0 = 48 := fun j hj => by
              rw [List.getD_eq_getElem?_getD, List.getElem?_append_left (by rw [List.length_replicate]; exact hj), List.getElem?_replicate, if_pos hj]
              rfl
            have hdD : ∀ j, j < len → (List.replicate (Plain.front D P) (48 : Int) ++ D).getD (Plain.front D P + j) 0 = D.getD j 0 := fun j hj => by
              rw [List.getD_eq_getElem?_getD, List.getElem?_append_right (by rw [List.length_replicate]; omega), List.length_replicate, Nat.add_sub_cancel_left, ← List.getD_eq_getElem?_getD]
            have hrc : ∀ j, j < Plain.front D P + len → wr.cell? ⟨w2.heap.size, j, none⟩ = some (.int .u8 ((List.replicate (Plain.front D P) (48 : Int) ++ D).getD j 0)) := fun j hj => by
              rw [ho.out.cellAt j (by rw [hFl]; omega)]
              exact ints_get (by rw [hFl]; exact hj)
            rw [hFl] at l1
            rw [hFl]
            clear e ho
            generalize List.replicate (Plain.front D P) (48 : Int) ++ D = F at *
            generalize Plain.front D P = f at *
            have hdc : ∀ j, j < len → wr.cell? ⟨w.heap.size, j, none⟩ = some (.int .u8 (D.getD j 0)) := fun j hj => by
              have h1 := HcD.out j hj
              rw [hb.out.cell (show w.heap.size < w2.heap.size by have := Hb2.out.size; omega), Hb2.out.cell (show w.heap.size < w1.heap.size by omega)]
              exact h1
            have Z1 : Hid (∀ j, j < f → wr.cell? ⟨w2.heap.size, j, none⟩ = some (.int .u8 48)) := fun j hj => by
              rw [hrc j (by omega), hz48 j hj]
            have Z2 : Hid (∀ j, j < len → wr.cell? ⟨w2.heap.size, f + j, none⟩ = some (.int .u8 (D.getD j 0))) := fun j hj => by
              rw [hrc (f + j) (by omega), hdD j hj]
            have Z3 : Hid (∀ j, j < len → wr.cell? ⟨w.heap.size, j, none⟩ = some (.int .u8 (D.getD j 0))) := hdc
            clear hrc hz48 hdD hdc hFl
            have hfl : f + len ≤ 600000 := by omega
            have HB : Hid (Below w.heap.size w wr) := (Hb1.out.trans (Hb2.out.mono (by omega))).trans (hb.out.mono (by have := Hb2.out.size; omega))
            go_wp2_with fail
            go_loop [12] (fun v => ∃ j : Nat, j ≤ f ∧ v = .int .i64 j) (fun v => f - (intOf v).toNat)
            case atStart => exact ⟨0, Nat.zero_le _, rfl⟩
            case round =>
              obtain ⟨j, hj, rfl⟩ := hrel
              by_cases hjf : j < f
              · have hcx := Z1.out j hjf
                go_wp2_with fail
                exact ⟨⟨j + 1, by omega, rfl⟩, by simp [intOf]; omega⟩
              · obtain ⟨wo, rfl⟩ : ∃ wo : World, wo = wr := ⟨_, rfl⟩
                go_wp2_with fail
                go_loopw [13] (fun v wr => ∃ k q : Nat, k ≤ len ∧ v = .int .i64 k ∧ wr = wo.drewN q) (fun v _ => len - (intOf v).toNat)
                case atStart => exact ⟨0, 0, Nat.zero_le _, rfl, rfl⟩
                case round =>
                  obtain ⟨k, q, hk, rfl, rfl⟩ := hrel
                  by_cases hkl : k < len
                  · have hcx := Z2.out k hkl
                    have hcy := Z3.out k hkl
                    generalize D.getD k 0 = c at *
                    go_wp2_with fail
                    go_quiet (fail)
                    go_wp2_with fail
                    exact ⟨⟨k + 1, _, by omega, rfl, rfl⟩, by simp [intOf]; omega⟩
                  · go_wp2_with fail
                    go_ret
                    exact ⟨rfl, below_drewN HB.out _⟩
end Go.Proofs.Qxb6602428a
