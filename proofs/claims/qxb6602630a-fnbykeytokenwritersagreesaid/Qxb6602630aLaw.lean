/-
  THE WALK of the law FnByKeyTokenWritersAgree.
-/
import Derived.Test.Qxb6602630aPlain
import Derived.Lib.Builder
namespace Go.Proofs.Qxb6602630a
open Go.RowKit Go.PlainAid

def CloneSaid (len : Nat) (Z : Nat → ZOp) (w : World) (e : Ending) (w' : World) : Prop :=
  ∃ a c, e = .returned (.slice a len c) ∧ (∀ i, i < len → a = some ⟨w.heap.size, 0, none⟩ ∧ w'.rangeAt w.heap.size (i * 8) (Z i).cells) ∧ Below w.heap.size w w'

theorem wpList_store_step {ops : Array Oper} {rest : List Oper} {op : Oper} {a : Act} {w : World} {Q : Exit → Act → World → Prop} (hgd : op.guard = none) (x y : Operand) (ho : op.op = .store 30 x y)
    (b o gb i : Nat) (hx : a.eval x = .pointer (some ⟨b, o, none⟩)) (hy : a.eval y = .agg #[.pointer (some ⟨gb, i * 8, none⟩), .int .i64 0, .bool false, .pointer none])
    (ht : w.there b o 4) (W : World) (hW : w.setCells b o (stepCells gb i) = W)
    (h : wpList Try.prog ops Q rest (a.put op.dst undef) W) : wpList Try.prog ops Q (op :: rest) a w :=
  wpList_store_mid hgd 30 x y ho b o _ hx hy ht s30 (by simp [Value.oneCell']) (by subst hW; exact h)

theorem range_getD {n t : Nat} (h : t < n) : (List.range n).getD t 0 = t := by
  simp [List.getD, h]

theorem nW_le (O : Nat → ZOp) : ∀ k, nW O k ≤ k
  | 0 => Nat.le_refl _
  | k + 1 => by
    have := nW_le O k
    unfold nW
    split <;> omega

theorem drawn (B : Nat) (w : World) (n : Nat) : Below B w (w.drewN n) := ⟨rfl, rfl, rfl, Nat.le_refl _, fun _ _ => rfl⟩

theorem bump {n j : Nat} (h : n ≤ j * 65536) : n ≤ (j + 1) * 65536 := Nat.le_trans h (Nat.mul_le_mul_right _ (Nat.le_succ _))

theorem mapSB_lt {w : World} {b n : Nat} {f : ByteArray → Bool} (h : MapSB w b n f) : b < w.heap.size := by
  obtain ⟨D, ho, _⟩ := h
  exact ho.lt

/-- what a reader of the parts needs -/
def PartsRead (w : World) (gb : Nat) (a : Option Addr) (ps : List (List Nat)) : Prop :=
  ∀ j, j < ps.length → ∃ pb, a = some ⟨pb, 0, none⟩ ∧ ∃ g c, w.cell? ⟨pb, j, none⟩ = some (.slice (some ⟨g, 0, none⟩) (ps.getD j []).length c) ∧ g < w.heap.size ∧ ∀ q, q < (ps.getD j []).length → w.rangeAt g (q * 4) (stepCells gb ((ps.getD j []).getD q 0))

theorem parts_read {w : World} {base gb cap : Nat} {a : Option Addr} {ps : List (List Nat)} {vs : List Value} (h : Parts w base gb (.slice a ps.length cap) ps vs) (hF : ∀ j, j < ps.length → ps.getD j [] ≠ []) : PartsRead w gb a ps := by
  intro j hj
  obtain ⟨pb, cap', hV, _, _⟩ := h.row.form (by omega)
  simp only [Value.slice.injEq, true_and] at hV
  obtain ⟨rfl, rfl⟩ := hV
  have hn : 0 < (ps.getD j []).length := List.length_pos_iff.2 (hF j hj)
  have hl := h.len
  obtain ⟨g, c, hv, _, hg⟩ := (h.part j hj).form hn
  refine ⟨pb, rfl, g, c, ?_, hg, fun q hq => ?_⟩
  · rw [h.row.cellAt j (by omega), ← hv, List.getElem?_eq_getElem (by omega)]
    simp [List.getD, List.getElem?_eq_getElem (show j < vs.length by omega)]
  · intro x v hx
    have hp := h.part j hj
    rw [hv] at hp
    have hx4 : x < 4 := by
      have := (List.getElem?_eq_some_iff.1 hx).1
      simpa [stepCells] using this
    rw [hp.cellAt (q * 4 + x) (by omega)]
    exact stepsOf_get gb _ q hq x v hx

theorem idx_lt {ps : List (List Nat)} {n j q : Nat} (h : ps.flatten.Perm (List.range n)) (hj : j < ps.length) (hq : q < (ps.getD j []).length) : (ps.getD j []).getD q 0 < n := by
  have h1 : (ps.getD j []).getD q 0 ∈ ps.getD j [] := by
    rw [getD_get hq]
    exact List.getElem_mem hq
  have h2 : ps.getD j [] ∈ ps := by
    simp only [List.getD, List.getElem?_eq_getElem hj, Option.getD_some]
    exact List.getElem_mem hj
  exact List.mem_range.1 (h.mem_iff.1 (List.mem_flatten.2 ⟨_, h2, h1⟩))

set_option maxRecDepth 100000 in
set_option maxHeartbeats 4000000 in
theorem law (a0 : Option Addr) (len cap : Nat) (Z : Nat → ZOp) (w : World) (h19 : Calls Try.prog 19 #[.slice a0 len cap] w (BytesSaid len Z w)) (h12 : Calls Try.prog 12 #[.slice a0 len cap] w (BigSaid len w))
    (h13 : ∀ w1, Below w.heap.size w w1 → len ≤ 65536 → Calls Try.prog 13 #[.slice a0 len cap] w1 (CloneSaid len Z w1)) :
    Calls Try.prog 5 #[.slice a0 len cap] w fun e w' => e = .returned (.bool true) ∧ Below w.heap.size w w' := by
  obtain ⟨i41, hi41, hz410, hz411, hz412⟩ := info_parts Try.info41
  obtain ⟨i30, hi30, hz300, hz301, hz302⟩ := info_parts Try.info30
  go_enter Try.func5, Try.ntmps5
  go_wp2_with fail
  refine h19.mono ?_
  rintro e w0 ⟨b, rfl, hbs, rfl⟩
  cases b with
  | false =>
    go_wp2_with fail
    go_ret
    exact ⟨rfl, Below.refl _ _⟩
  | true =>
    have Hbs : Hid (∀ i, i < len → (Z i).val.size ≤ 1048576 ∧ (Z i).key.size ≤ 1048576) := hbs rfl
    clear hbs h19
    go_wp2_with fail
    refine h12.mono ?_
    rintro e w1 ⟨b, rfl, hl, hb1⟩
    cases b with
    | true =>
      have Hb1 : Hid (Below w.heap.size w w1) := hb1
      clear hb1 hl
      go_wp2_with fail
      go_ret
      exact ⟨rfl, Hb1⟩
    | false =>
      have hlen : len ≤ 65536 := hl rfl
      have h13' := h13 w1 hb1 hlen
      have Hb1 : Hid (Below w.heap.size w w1) := hb1
      clear hb1 hl h13 h12
      go_wp2_with fail
      refine h13'.mono ?_
      rintro e w2 ⟨a, c, rfl, hops, hb2⟩
      have Hops : Hid (∀ i, i < len → a = some ⟨w1.heap.size, 0, none⟩ ∧ w2.rangeAt w1.heap.size (i * 8) (Z i).cells) := hops
      have Hb2 : Hid (Below w.heap.size w w2) := Hb1.out.trans (hb2.mono Hb1.out.size)
      have hs12 := hb2.size
      clear h13' hops hb2
      go_wp2_with (at_make; refine wpList_make_full _ rfl (.tmp 33) (.tmp 33) 39 rfl w2.heap.size 41 i41 _ 8 Try.underlying39 hi41 hz410 hz411 .i64 .i64 _ _ len rfl rfl rfl rfl (by rw [hz412]; omega) (by unfold maxLen; omega) (Nat.le_refl _) ?_; intro w3 hown hgrow; have Hr : Hid (w3.there w2.heap.size 0 (len * 8)) := there_own hown; have Hb3 : Hid (Below w2.heap.size w2 w3) := (Below.refl _ _).grown hgrow (Nat.le_refl _) (fun k hk => by cases hk); have hs3 := (hown.lt w2.heap.size rfl).2; clear hown hgrow)
      go_loopw [5] (fun v wr => ∃ k : Nat, k ≤ len ∧ v = .int .i64 k ∧ w2.heap.size < wr.heap.size ∧ Hid (wr.there w2.heap.size 0 (len * 8)) ∧ Hid (∀ i, i < k → wr.rangeAt w2.heap.size (i * 8) (Z i).cells) ∧ Hid (Below w2.heap.size w2 wr)) (fun v _ => len - (intOf v).toNat)
      case atStart => exact ⟨0, Nat.zero_le _, rfl, hs3, Hr, (fun _ hi => absurd hi (Nat.not_lt_zero _)), Hb3⟩
      case round =>
        obtain ⟨k, hk, rfl, hsz, hr, ho, hb⟩ := hrel
        by_cases hlt : k < len
        · obtain ⟨rfl, hop⟩ := Hops.out k hlt
          have hlx := Lib.lt_of_cell (hop 0 _ rfl)
          obtain ⟨c0, c1, c2, c3, c4, c5, c6, c7⟩ := opAt_range (range_below hop hb.out hlx)
          clear hop
          go_wp2_with fail
          refine (fromZ (Z k) wr).mono ?_
          rintro e w4 ⟨rfl, hb4⟩
          have hs4 := hb4.size
          have hr4 := there_below hr.out hb4 hsz
          have ht := there_part hr4 (k * 8) 8 (by omega)
          have Hs : Hid (∀ i, i < k + 1 → (w4.setCells w2.heap.size (k * 8) (Z k).cells).rangeAt w2.heap.size (i * 8) (Z i).cells) := by
            intro i hi
            by_cases e : i = k
            · subst e
              exact World.rangeAt_setCells_same _ _ _ _ ht
            · exact World.rangeAt_setCells_apart (range_below (ho.out i (by omega)) hb4 hsz) _ _ _ (Or.inr (Or.inl (by simp [ZOp.cells]; omega)))
          have Hr2 : Hid ((w4.setCells w2.heap.size (k * 8) (Z k).cells).there w2.heap.size 0 (len * 8)) := World.there_setCells hr4 _ _ _
          have Hb5 : Hid (Below w2.heap.size w2 (w4.setCells w2.heap.size (k * 8) (Z k).cells)) := below_setCells (Nat.le_refl _) _ _ _ (hb.out.trans (hb4.mono hb.out.size))
          have hs5 : w2.heap.size < (w4.setCells w2.heap.size (k * 8) (Z k).cells).heap.size := by rw [size_setCells]; omega
          have Ht : Hid (w4.there w2.heap.size (k * 8) 8) := ht
          clear ht hr4 hb4
          generalize hW : w4.setCells w2.heap.size (k * 8) (Z k).cells = W2 at *
          have HW : Hid (w4.setCells w2.heap.size (k * 8) (Z k).cells = W2) := hW
          clear hW
          go_wp2_with (refine wpList_store_op rfl 41 (.tmp 47) (.tmp 46) rfl w2.heap.size (k * 8) (Z k) rfl rfl Ht s41 W2 HW ?_)
          exact ⟨⟨k + 1, by omega, rfl, hs5, Hr2, Hs, Hb5⟩, by simp [intOf]; omega⟩
        · have e : k = len := by omega
          subst e
          clear Hr Hb3 hr hs3
          obtain ⟨wB, hwB⟩ : ∃ x, x = wr := ⟨wr, rfl⟩
          subst hwB
          go_wp2_with (at_make; refine wpList_make_full _ rfl (.tmp 48) (.tmp 48) 25 rfl wB.heap.size 30 i30 _ 4 Try.underlying25 hi30 hz300 hz301 .i64 .i64 _ _ k rfl rfl rfl rfl (by rw [hz302]; omega) (by unfold maxLen; omega) (Nat.le_refl _) ?_; intro w5 hown hgrow; have Hr : Hid (w5.there wB.heap.size 0 (k * 4)) := there_own hown; have Hb5 : Hid (Below wB.heap.size wB w5) := (Below.refl _ _).grown hgrow (Nat.le_refl _) (fun k hk => by cases hk); have hs5 := (hown.lt wB.heap.size rfl).2; clear hown hgrow)
          go_loopw [7] (fun v wx => ∃ t : Nat, t ≤ k ∧ v = .int .i64 t ∧ wB.heap.size < wx.heap.size ∧ Hid (wx.there wB.heap.size 0 (k * 4)) ∧ Hid (∀ i, i < t → wx.rangeAt wB.heap.size (i * 4) (stepCells w2.heap.size i)) ∧ Hid (Below wB.heap.size wB wx)) (fun v _ => k - (intOf v).toNat)
          case atStart => exact ⟨0, Nat.zero_le _, rfl, hs5, Hr, (fun _ hi => absurd hi (Nat.not_lt_zero _)), Hb5⟩
          case round =>
            obtain ⟨t, ht, rfl, hsx, hrx, hox, hbx⟩ := hrel
            by_cases hlt : t < k
            · go_wp2_with fail
              refine (makeStep ⟨w2.heap.size, t * 8, none⟩ wr).mono ?_
              rintro e w6 ⟨rfl, hb6⟩
              have hs6 := hb6.size
              have hr6 := there_below hrx.out hb6 hsx
              have ht6 := there_part hr6 (t * 4) 4 (by omega)
              have Hs : Hid (∀ i, i < t + 1 → (w6.setCells wB.heap.size (t * 4) (stepCells w2.heap.size t)).rangeAt wB.heap.size (i * 4) (stepCells w2.heap.size i)) := by
                intro i hi
                by_cases e : i = t
                · subst e
                  exact World.rangeAt_setCells_same _ _ _ _ ht6
                · exact World.rangeAt_setCells_apart (range_below (hox.out i (by omega)) hb6 hsx) _ _ _ (Or.inr (Or.inl (by simp [stepCells]; omega)))
              have Hr2 : Hid ((w6.setCells wB.heap.size (t * 4) (stepCells w2.heap.size t)).there wB.heap.size 0 (k * 4)) := World.there_setCells hr6 _ _ _
              have Hb7 : Hid (Below wB.heap.size wB (w6.setCells wB.heap.size (t * 4) (stepCells w2.heap.size t))) := below_setCells (Nat.le_refl _) _ _ _ (hbx.out.trans (hb6.mono hbx.out.size))
              have hs7 : wB.heap.size < (w6.setCells wB.heap.size (t * 4) (stepCells w2.heap.size t)).heap.size := by rw [size_setCells]; omega
              have Ht : Hid (w6.there wB.heap.size (t * 4) 4) := ht6
              clear ht6 hr6 hb6
              generalize hW : w6.setCells wB.heap.size (t * 4) (stepCells w2.heap.size t) = W2 at *
              have HW : Hid (w6.setCells wB.heap.size (t * 4) (stepCells w2.heap.size t) = W2) := hW
              clear hW
              go_wp2_with (refine wpList_store_step rfl (.tmp 61) (.tmp 60) rfl wB.heap.size (t * 4) w2.heap.size t rfl rfl Ht W2 HW ?_)
              exact ⟨⟨t + 1, by omega, rfl, hs7, Hr2, Hs, Hb7⟩, by simp [intOf]; omega⟩
            · have e : t = k := by omega
              subst e
              clear Hr Hb5 hrx hs5
              obtain ⟨wC, hwC⟩ : ∃ x, x = wr := ⟨wr, rfl⟩
              subst hwC
              have hwr := zzwriters wB.heap.size w2.heap.size t t hlen (fun q => (List.range t).getD q 0) Z wC
                (fun q hq => by rw [range_getD hq]; exact (Hbs.out q hq).1) (fun q hq => by rw [range_getD hq]; exact hox.out q hq)
                (fun q hq => by rw [range_getD hq]; exact range_below (ho.out q hq) hbx.out hsz)
              go_wp2_with fail
              refine hwr.mono ?_
              clear hwr
              rintro e w6 ⟨hb6, hcase⟩
              have hcase2 : ∃ r : Option Nat, e = .returned (.map r) ∧ Hid (r = none → ¬ Good Z (List.range t)) ∧ Hid (∀ b, r = some b → b < w6.heap.size ∧ ∃ f sz, MapSI w6 b t f sz ∧ Inv (fun q => Z ((List.range t).getD q 0)) t f ∧ Good Z (List.range t)) := by
                rcases hcase with ⟨rfl, hbad⟩ | ⟨b, f, rfl, _, hm, hinv⟩
                · refine ⟨none, rfl, fun _ => ?_, (fun b hb => by cases hb)⟩
                  exact bad_not_good (by rw [List.length_range]; exact hbad)
                · refine ⟨some b, rfl, (fun h => by cases h), fun b' hb' => ?_⟩
                  cases hb'
                  exact ⟨mapSI_lt hm, f, _, hm, hinv, inv_good (by rw [List.length_range]; exact hinv)⟩
              clear hcase
              obtain ⟨r, rfl, Hr0, Hr1⟩ := hcase2
              have hbk := zzbyKey w2.heap.size t t hlen Z w6 (fun q hq => Nat.le_trans (Hbs.out q hq).2 (by unfold maxLen; omega))
                (fun q hq => range_below (range_below (ho.out q hq) hbx.out hsz) hb6 (by omega))
              have Hb6 : Hid (Below wC.heap.size wC w6) := hb6
              have hs6 := hb6.size
              clear hb6
              go_wp2_with fail
              refine hbk.mono ?_
              clear hbk
              rintro e w7 ⟨hb7, a2, cap2, ps, vs, rfl, hP, hfull, hperm⟩
              have hmm := @run_makeMap Try.prog
              have HPR : Hid (PartsRead w7 w2.heap.size a2 ps) := parts_read hP hfull
              have HIx : Hid (∀ j q, j < ps.length → q < (ps.getD j []).length → (ps.getD j []).getD q 0 < t) := fun j q hj hq => idx_lt hperm hj hq
              have HL : Hid (∀ j, (ps.getD j []).length ≤ 65536) := fun j => Nat.le_trans (part_len hperm) hlen
              have hpl : ps.length ≤ 65536 := by
                have h1 := full_len (ps := ps) hfull
                have h2 : ps.flatten.length = t := by rw [hperm.length_eq, List.length_range]
                omega
              have HB : Hid (∀ i, i < t → w7.rangeAt w2.heap.size (i * 8) (Z i).cells) := fun i hi => range_below (range_below (range_below (ho.out i hi) hbx.out hsz) Hb6.out (by omega)) hb7 (by omega)
              have HR : Hid (∀ b, r = some b → b < w7.heap.size ∧ ∃ f sz, MapSI w7 b t f sz ∧ Inv (fun q => Z ((List.range t).getD q 0)) t f ∧ Good Z (List.range t)) := by
                intro b hb
                obtain ⟨h1, f, sz, h2, h3, h4⟩ := Hr1.out b hb
                exact ⟨Nat.lt_of_lt_of_le h1 hb7.size, f, sz, mapSI_below h2 hb7 h1, h3, h4⟩
              have hs7 := hb7.size
              have hg7 : w2.heap.size < w7.heap.size := by omega
              have Hbw : Hid (Below w.heap.size w w7) := by
                have q1 := Hb2.out
                have q2 := hb.out
                have q3 := hbx.out
                have q4 := Hb6.out
                have z1 := q1.size
                have z2 := q2.size
                have z3 := q3.size
                have z4 := q4.size
                exact ((((q1.trans (q2.mono z1)).trans (q3.mono (by omega))).trans (q4.mono (by omega))).trans (hb7.mono (by omega)))
              have Hperm : Hid (ps.flatten.Perm (List.range t)) := hperm
              clear hP hfull hperm hb7 Hb6 Hr1 hbx hox ho hb Hb2 Hops
              go_wp2_with fail
              have H0 : Hid (MapSB (w7.alloc (.map #[] 0)) w7.heap.size 0 (fun _ => false)) := mapSB_made w7
              go_loopw [10, 11, 13] (fun v10 v11 v13 wx => ∃ (j : Nat) (allP cr : Bool) (seen : ByteArray → Bool) (L : List Nat) (nB : Nat), j ≤ ps.length ∧ v10 = .bool allP ∧ v11 = .bool cr ∧ v13 = .int .i64 j ∧ nB ≤ j * 65536 ∧ Hid (Out Z ps j allP cr seen L) ∧ Hid (MapSB wx w7.heap.size nB seen) ∧ Hid (Below w7.heap.size w7 wx)) (fun _ _ v _ => ps.length - (intOf v).toNat)
              case atStart => exact ⟨0, true, true, _, [], 0, Nat.zero_le _, rfl, rfl, rfl, Nat.zero_le _, out_zero Z ps, H0, (Below.refl _ _).alloc (Nat.le_refl _) _⟩
              case round =>
                obtain ⟨j, allP, cr, seen, L, nB, hj, rfl, rfl, rfl, hnB, hout, hseen, hbl⟩ := hrel
                by_cases hlt : j < ps.length
                · obtain ⟨pb, rfl, g, c2, hcell, hg2, hsteps⟩ := HPR.out j hlt
                  have hix := fun q => HIx.out j q hlt
                  have hjl := HL.out j
                  have HOg : Hid (∀ cr' seen', Good Z (ps.getD j []) → (cr' = true ↔ (L ++ ps.getD j []).Pairwise (Apart Z)) → Seen Z (L ++ ps.getD j []) seen' → Out Z ps (j + 1) allP cr' seen' (L ++ ps.getD j [])) := fun cr' seen' h1 h2 h3 => out_good hout.out hlt h1 h2 h3
                  have HOb : Hid (¬ Good Z (ps.getD j []) → Out Z ps (j + 1) false cr seen L) := fun h => out_bad hout.out hlt h
                  generalize hjs : ps.getD j [] = js at *
                  have hpbl := Lib.lt_of_cell hcell
                  have hcx : wr.cell? ⟨pb, j, none⟩ = some (.slice (some ⟨g, 0, none⟩) js.length c2) := by rw [hbl.out.cell hpbl]; exact hcell
                  have hmb := mapSB_lt hseen.out
                  have hwr := zzwriters g w2.heap.size js.length c2 hjl (fun q => js.getD q 0) Z wr
                    (fun q hq => (Hbs.out _ (hix q hq)).1) (fun q hq => range_below (hsteps q hq) hbl.out hg2)
                    (fun q hq => range_below (HB.out _ (hix q hq)) hbl.out hg7)
                  have Hst : Hid (∀ q, q < js.length → w7.rangeAt g (q * 4) (stepCells w2.heap.size (js.getD q 0))) := hsteps
                  have Hix : Hid (∀ q, q < js.length → js.getD q 0 < t) := hix
                  have HC : Hid (cr = true ↔ L.Pairwise (Apart Z)) := hout.out.cross
                  have HS : Hid (Seen Z L seen) := hout.out.seen
                  clear hcell hsteps hix hout hjs
                  go_wp2_with fail
                  refine hwr.mono ?_
                  clear hwr
                  rintro e w8 ⟨hb8, ⟨rfl, hbad⟩ | ⟨b, f, rfl, hle, hm8, hinv⟩⟩
                  · have hq := run_eql_map_nil w8 31 9 3 none Try.underlying31
                    have HO : Hid (Out Z ps (j + 1) false cr seen L) := HOb.out (bad_not_good hbad)
                    have Hs8 : Hid (MapSB w8 w7.heap.size nB seen) := mapSB_below hseen.out hb8 hmb
                    have Hb8 : Hid (Below w7.heap.size w7 w8) := hbl.out.trans (hb8.mono hbl.out.size)
                    clear hbad hb8
                    go_wp2_with fail
                    exact ⟨⟨j + 1, false, cr, seen, L, nB, by omega, rfl, rfl, by simp, bump hnB, HO, Hs8, Hb8⟩, by simp [intOf]; omega⟩
                  · have hq := run_eql_map_nil w8 31 9 3 (some b) Try.underlying31
                    have Hgood : Hid (Good Z js) := inv_good hinv
                    have Hinv : Hid (Inv (fun q => Z (js.getD q 0)) js.length f) := hinv
                    have Hm8 : Hid (MapSI w8 b js.length f (nW (fun q => Z (js.getD q 0)) js.length)) := hm8
                    have Hs8 : Hid (MapSB w8 w7.heap.size nB seen) := mapSB_below hseen.out hb8 hmb
                    have Hb8 : Hid (Below w7.heap.size w7 w8) := hbl.out.trans (hb8.mono hbl.out.size)
                    have hne : w7.heap.size < b := by omega
                    have hs8 := hb8.size
                    have hbs : b < w8.heap.size := mapSI_lt hm8
                    clear hb8 hinv hm8 hle HOb hcx
                    go_wp2_with fail
                    go_loopw [11, 16, 17] (fun v11 v16 v17 wx => ∃ (p : Nat) (cr' : Bool) (seen' : ByteArray → Bool) (nC : Nat), p ≤ js.length ∧ v11 = .bool cr' ∧ v16 = .int .i64 (nW (fun q => Z (js.getD q 0)) p) ∧ v17 = .int .i64 p ∧ nC ≤ nB + p ∧ Hid (In Z (L ++ js.take p) cr' seen') ∧ Hid (MapSB wx w7.heap.size nC seen') ∧ Hid (MapSI wx b js.length f (nW (fun q => Z (js.getD q 0)) js.length)) ∧ Hid (Below w7.heap.size w7 wx)) (fun _ _ v _ => js.length - (intOf v).toNat)
                    case atStart => exact ⟨0, cr, seen, nB, Nat.zero_le _, rfl, rfl, rfl, Nat.le_refl _, (by rw [List.take_zero, List.append_nil]; exact ⟨HC.out, HS.out⟩), Hs8, Hm8, Hb8⟩
                    case round =>
                      obtain ⟨p, cr', seen', nC, hp, rfl, rfl, rfl, hnC, hin, hsn, hpm, hbw⟩ := hrel
                      by_cases hplt : p < js.length
                      · have hi := Hix.out p hplt
                        have hst := Hst.out p hplt
                        have hop := HB.out _ hi
                        have hval := (Hbs.out _ hi).1
                        have HI1 := Hinv.out.1 p hplt
                        have HT : Hid (js.take (p + 1) = js.take p ++ [js.getD p 0]) := take_snoc hplt
                        have HN : Hid (nW (fun q => Z (js.getD q 0)) (p + 1) = nW (fun q => Z (js.getD q 0)) p + (if isGet (Z (js.getD p 0)) then 0 else 1)) := rfl
                        have HRi : Hid (∀ rb, r = some rb → isGet (Z (js.getD p 0)) = false → ∃ fr sz, MapSI w7 rb t fr sz ∧ fr (Z (js.getD p 0)).val = some ((js.getD p 0 : Nat) : Int)) := by
                          intro rb hrb hg
                          obtain ⟨_, fr, sz, h2, h3, _⟩ := HR.out rb hrb
                          have h5 := h3.1 (js.getD p 0) hi (by simp only [range_getD hi]; exact hg)
                          simp only [range_getD hi] at h5
                          exact ⟨fr, sz, h2, h5.2⟩
                        simp only at HI1
                        generalize js.getD p 0 = i at *
                        have l1 := hg2
                        have hsz2 := hbw.out.size
                        have hst' := range_below hst hbw.out l1
                        have hop' := range_below hop hbw.out hg7
                        have s0 := hst' 0 _ rfl
                        have s1 := hst' 1 _ rfl
                        have s2 := hst' 2 _ rfl
                        have s3 := hst' 3 _ rfl
                        have c1 := hop' 1 _ rfl
                        have c3 := hop' 3 _ rfl
                        simp only [Nat.add_zero] at s0
                        have l1' : g < wr.heap.size := Nat.lt_of_lt_of_le l1 hsz2
                        have l2' : w2.heap.size < wr.heap.size := Nat.lt_of_lt_of_le hg7 hsz2
                        have hb1 : Below w7.heap.size w7 (wr.alloc (.cells #[.pointer (some ⟨w2.heap.size, i * 8, none⟩), .int .i64 0, .bool false, .pointer none] 30)) := hbw.out.alloc hsz2 _
                        have hm1 : MapSI (wr.alloc (.cells #[.pointer (some ⟨w2.heap.size, i * 8, none⟩), .int .i64 0, .bool false, .pointer none] 30)) b js.length f (nW (fun q => Z (js.getD q 0)) js.length) := mapSI_kept hpm.out (World.grownBy_alloc wr _ none) (by simp)
                        have hmb2 := mapSB_lt hsn.out
                        have hsb1 : MapSB (wr.alloc (.cells #[.pointer (some ⟨w2.heap.size, i * 8, none⟩), .int .i64 0, .bool false, .pointer none] 30)) w7.heap.size nC seen' := mapSB_below hsn.out ((Below.refl wr.heap.size wr).alloc (Nat.le_refl _) _) hmb2
                        clear hst hop hst' hop'
                        cases hg : isGet (Z i) with
                        | true =>
                          have Hg : Hid (isGet (Z i) = true) := hg
                          unfold isGet at hg
                          have Hin2 : Hid (In Z (L ++ js.take (p + 1)) cr' seen') := by rw [HT.out, ← List.append_assoc]; exact in_get hin.out Hg.out
                          have HN2 : Hid (nW (fun q => Z (js.getD q 0)) (p + 1) = nW (fun q => Z (js.getD q 0)) p) := by rw [HN.out, if_pos Hg.out]; rfl
                          have Hm1 : Hid _ := hm1
                          have Hs1 : Hid _ := hsb1
                          have Hb1 : Hid _ := hb1
                          clear hm1 hsb1 hb1
                          go_wp2_with fail
                          exact ⟨⟨p + 1, cr', seen', nC, by omega, rfl, by rw [HN2.out], by simp, by omega, Hin2, Hs1, Hm1, Hb1⟩, by simp [intOf]; omega⟩
                        | false =>
                          have Hg : Hid (isGet (Z i) = false) := hg
                          unfold isGet at hg
                          have hfp := (HI1 Hg.out).2
                          have hlk := mapSI_look hm1 (Z i).val (by unfold maxLen; omega)
                          rw [hfp] at hlk
                          simp only [Option.isSome, Option.getD] at hlk
                          have hsk := mapSB_look hsb1 (Z i).val (by unfold maxLen; omega)
                          have Hin2 : Hid (In Z (L ++ js.take (p + 1)) (cr' && !seen' (Z i).val) (fun t => if t = (Z i).val then true else seen' t)) := by rw [HT.out, ← List.append_assoc]; exact in_put hin.out Hg.out
                          have HN2 : Hid (nW (fun q => Z (js.getD q 0)) (p + 1) = nW (fun q => Z (js.getD q 0)) p + 1) := by rw [HN.out, if_neg (by rw [Hg.out]; simp)]; exact rfl
                          have Hm1 : Hid (MapSI (wr.alloc (.cells #[.pointer (some ⟨w2.heap.size, i * 8, none⟩), .int .i64 0, .bool false, .pointer none] 30)) b js.length f (nW (fun q => Z (js.getD q 0)) js.length)) := hm1
                          have Hs1 : Hid (MapSB (wr.alloc (.cells #[.pointer (some ⟨w2.heap.size, i * 8, none⟩), .int .i64 0, .bool false, .pointer none] 30)) w7.heap.size nC seen') := hsb1
                          have Hb1 : Hid (Below w7.heap.size w7 (wr.alloc (.cells #[.pointer (some ⟨w2.heap.size, i * 8, none⟩), .int .i64 0, .bool false, .pointer none] 30))) := hb1
                          have HnC : nC < maxLen := by
                            have h1 : j * 65536 ≤ 65536 * 65536 := Nat.mul_le_mul_right _ (by omega)
                            have h2 : nC ≤ 65536 * 65536 + 65536 := Nat.le_trans hnC (Nat.add_le_add (Nat.le_trans hnB h1) (Nat.le_trans hp hjl))
                            exact Nat.lt_of_le_of_lt h2 (by decide)
                          clear hm1 hsb1 hb1 HI1 hfp HN hin HT
                          have hin0 : (0 : Int) ≤ (i : Int) := Int.natCast_nonneg _
                          have hin1 : (i : Int) < (t : Int) := by omega
                          have hNle : nW (fun q => Z (js.getD q 0)) p ≤ 65536 := Nat.le_trans (nW_le _ p) (Nat.le_trans hp hjl)
                          generalize nW (fun q => Z (js.getD q 0)) p = N at *
                          have hd1 : decide ((i : Int) < 0) = false := decide_eq_false (by omega)
                          have hd2 : decide ((t : Int) ≤ (i : Int)) = false := decide_eq_false (by omega)
                          have hpe := fun W => Lib.run_neq_ptr_same (P := Try.prog) W (⟨w2.heap.size, i * 8, none⟩ : Addr) Try.underlying27 hi41
                          cases hr : r with
                          | none =>
                            have hq2 := fun W => run_neq_map_nil W 31 9 3 none Try.underlying31
                            cases hsv : seen' (Z i).val with
                            | true =>
                              rw [hsv] at hsk Hin2
                              rw [Bool.not_true, Bool.and_false] at Hin2
                              go_wp2_with (at_mapUpdate; refine wpList_put_SB _ rfl (.tmp 120) (.tmp 121) (.const (.bool true)) rfl w7.heap.size nC seen' rfl Hs1.out HnC (Z i).val (by unfold maxLen; omega) rfl rfl ?_; intro w9 hs9 hg9; have HS9 : Hid (MapSB w9 w7.heap.size (nC + 1) (fun t => if t = (Z i).val then true else seen' t)) := hs9; have HB9 : Hid (Below w7.heap.size w7 w9) := Hb1.out.grown hg9 Hb1.out.size (fun q hq => by cases hq; exact Nat.le_refl _); have HM9 : Hid (MapSI w9 b js.length f (nW (fun q => Z (js.getD q 0)) js.length)) := mapSI_kept Hm1.out hg9 (fun e => by cases e; omega); clear hs9 hg9)
                              exact ⟨⟨p + 1, false, _, nC + 1, by omega, rfl, by rw [HN2.out]; simp, by simp, by omega, Hin2, HS9, HM9, HB9⟩, by simp [intOf]; omega⟩
                            | false =>
                              rw [hsv] at hsk Hin2
                              rw [Bool.not_false, Bool.and_true] at Hin2
                              go_wp2_with (at_mapUpdate; refine wpList_put_SB _ rfl (.tmp 120) (.tmp 121) (.const (.bool true)) rfl w7.heap.size nC seen' rfl Hs1.out HnC (Z i).val (by unfold maxLen; omega) rfl rfl ?_; intro w9 hs9 hg9; have HS9 : Hid (MapSB w9 w7.heap.size (nC + 1) (fun t => if t = (Z i).val then true else seen' t)) := hs9; have HB9 : Hid (Below w7.heap.size w7 w9) := Hb1.out.grown hg9 Hb1.out.size (fun q hq => by cases hq; exact Nat.le_refl _); have HM9 : Hid (MapSI w9 b js.length f (nW (fun q => Z (js.getD q 0)) js.length)) := mapSI_kept Hm1.out hg9 (fun e => by cases e; omega); clear hs9 hg9)
                              exact ⟨⟨p + 1, cr', _, nC + 1, by omega, rfl, by rw [HN2.out]; simp, by simp, by omega, Hin2, HS9, HM9, HB9⟩, by simp [intOf]; omega⟩
                          | some rb =>
                            have hq2 := fun W => run_neq_map_nil W 31 9 3 (some rb) Try.underlying31
                            obtain ⟨fr, szr, hmr, hfr⟩ := HRi.out rb hr Hg.out
                            have Hrl : Hid (∀ W, Below w7.heap.size w7 W → (Instr.lookup 31 (.map (some rb)) (.string (Z i).val) true).run Try.prog W = .ok (.tuple #[.int .i64 (i : Int), .bool true]) W) := by
                              intro W hW
                              have h1 := mapSI_look (mapSI_below hmr hW (mapSI_lt hmr)) (Z i).val (by unfold maxLen; omega)
                              rw [hfr] at h1
                              exact h1
                            have hbx1 : (wr.alloc (.cells #[.pointer (some ⟨w2.heap.size, i * 8, none⟩), .int .i64 0, .bool false, .pointer none] 30)).cell? ⟨wr.heap.size, 0, none⟩ = some (.pointer (some ⟨w2.heap.size, i * 8, none⟩)) := by simp
                            clear hmr hfr
                            cases hsv : seen' (Z i).val with
                            | true =>
                              rw [hsv] at hsk Hin2
                              rw [Bool.not_true, Bool.and_false] at Hin2
                              go_wp2_with (at_mapUpdate; refine wpList_put_SB _ rfl (.tmp 120) (.tmp 121) (.const (.bool true)) rfl w7.heap.size nC seen' rfl Hs1.out HnC (Z i).val (by unfold maxLen; omega) rfl rfl ?_; intro w9 hs9 hg9; have HS9 : Hid (MapSB w9 w7.heap.size (nC + 1) (fun t => if t = (Z i).val then true else seen' t)) := hs9; have HB9 : Hid (Below w7.heap.size w7 w9) := Hb1.out.grown hg9 Hb1.out.size (fun q hq => by cases hq; exact Nat.le_refl _); have HM9 : Hid (MapSI w9 b js.length f (nW (fun q => Z (js.getD q 0)) js.length)) := mapSI_kept Hm1.out hg9 (fun e => by cases e; omega); have hlk9 := Hrl.out w9 HB9.out; have hbx9 : w9.cell? ⟨wr.heap.size, 0, none⟩ = some (.pointer (some ⟨w2.heap.size, i * 8, none⟩)) := (hg9.cell_far _ (by simp) (fun e => by have h : wr.heap.size = w7.heap.size := Option.some.inj e; omega)).trans hbx1; clear hs9 hg9)
                              go_quiet (fail)
                              go_wp2_with fail
                              exact ⟨⟨p + 1, false, _, nC + 1, by omega, rfl, by rw [HN2.out]; simp, by simp, by omega, Hin2, mapSB_below HS9.out (drawn _ w9 nq) (mapSB_lt HS9.out), mapSI_below HM9.out (drawn _ w9 nq) (mapSI_lt HM9.out), HB9.out.trans (drawn _ w9 nq)⟩, by simp [intOf]; omega⟩
                            | false =>
                              rw [hsv] at hsk Hin2
                              rw [Bool.not_false, Bool.and_true] at Hin2
                              go_wp2_with (at_mapUpdate; refine wpList_put_SB _ rfl (.tmp 120) (.tmp 121) (.const (.bool true)) rfl w7.heap.size nC seen' rfl Hs1.out HnC (Z i).val (by unfold maxLen; omega) rfl rfl ?_; intro w9 hs9 hg9; have HS9 : Hid (MapSB w9 w7.heap.size (nC + 1) (fun t => if t = (Z i).val then true else seen' t)) := hs9; have HB9 : Hid (Below w7.heap.size w7 w9) := Hb1.out.grown hg9 Hb1.out.size (fun q hq => by cases hq; exact Nat.le_refl _); have HM9 : Hid (MapSI w9 b js.length f (nW (fun q => Z (js.getD q 0)) js.length)) := mapSI_kept Hm1.out hg9 (fun e => by cases e; omega); have hlk9 := Hrl.out w9 HB9.out; have hbx9 : w9.cell? ⟨wr.heap.size, 0, none⟩ = some (.pointer (some ⟨w2.heap.size, i * 8, none⟩)) := (hg9.cell_far _ (by simp) (fun e => by have h : wr.heap.size = w7.heap.size := Option.some.inj e; omega)).trans hbx1; clear hs9 hg9)
                              go_quiet (fail)
                              go_wp2_with fail
                              exact ⟨⟨p + 1, cr', _, nC + 1, by omega, rfl, by rw [HN2.out]; simp, by simp, by omega, Hin2, mapSB_below HS9.out (drawn _ w9 nq) (mapSB_lt HS9.out), mapSI_below HM9.out (drawn _ w9 nq) (mapSI_lt HM9.out), HB9.out.trans (drawn _ w9 nq)⟩, by simp [intOf]; omega⟩
                      · have e : p = js.length := by omega
                        have hin2 := hin.out
                        rw [e, List.take_length] at hin2
                        have HO : Hid (Out Z ps (j + 1) allP cr' seen' (L ++ js)) := HOg.out cr' seen' Hgood.out hin2.cross hin2.seen
                        have hnC2 : nC ≤ (j + 1) * 65536 := by
                          have h1 : (j + 1) * 65536 = j * 65536 + 65536 := Nat.succ_mul _ _
                          rw [h1]
                          exact Nat.le_trans hnC (Nat.add_le_add hnB (Nat.le_trans hp hjl))
                        subst e
                        clear hin hin2
                        generalize nW (fun q => Z (js.getD q 0)) js.length = N at *
                        go_wp2_with (at_len; refine wpList_len_SI _ rfl (.tmp 149) rfl b js.length N f rfl hpm.out ?_)
                        exact ⟨⟨j + 1, allP, cr', seen', L ++ js, nC, by omega, rfl, rfl, by simp, hnC2, HO, hsn, hbw⟩, by simp [intOf]; omega⟩
                · have e : j = ps.length := by omega
                  subst e
                  have hfin := out_end hout.out Hperm.out
                  have hq := run_neq_map_nil wr 31 9 3 r Try.underlying31
                  have hE : (!r.isNone) = (allP && cr) := by
                    cases hr : r with
                    | none =>
                      have h1 := Hr0.out hr
                      rw [hfin] at h1
                      simpa using h1
                    | some b =>
                      obtain ⟨_, _, _, _, _, h4⟩ := HR.out b hr
                      have h1 := hfin.1 h4
                      rw [h1]
                      rfl
                  rw [hE] at hq
                  have HE : Hid (Below w.heap.size w wr) := Hbw.out.trans (hbl.out.mono Hbw.out.size)
                  clear hE hfin hout hseen hbl Hr0 HR HB HIx HPR
                  cases allP <;> cases cr <;>
                  · simp only [Bool.and_self, Bool.and_true, Bool.and_false] at hq
                    go_wp2_with fail
                    go_ret
                    exact ⟨rfl, HE⟩
end Go.Proofs.Qxb6602630a
