/-
  byKey: the operations parted by key.
-/
import Derived.Test.Qxb6602630aParts
import Derived.Deep.RegionLaw
namespace Go.Proofs.Qxb6602630a
open Go.RowKit Go.PlainAid

def ByKeySaid (gb n : Nat) (w : World) (e : Ending) (w' : World) : Prop :=
  Below w.heap.size w w' ∧ ∃ a cap ps vs, e = .returned (.slice a ps.length cap) ∧ Parts w' w.heap.size gb (.slice a ps.length cap) ps vs ∧ (∀ j, j < ps.length → ps.getD j [] ≠ []) ∧ ps.flatten.Perm (List.range n)

theorem parts_zero (w : World) (base gb : Nat) : Parts w base gb (.slice none 0 0) [] [] :=
  ⟨World.ownsRow_nil _ _ _ _, (fun _ hj => absurd hj (Nat.not_lt_zero _)), (fun _ _ _ hj => absurd hj (Nat.not_lt_zero _))⟩

/-- the index holds numbers of parts -/
def IdxOk (f : ByteArray → Option Int) (m : Nat) : Prop := ∀ s v, f s = some v → ∃ k : Nat, v = (k : Int) ∧ k < m

theorem idx_put {f : ByteArray → Option Int} {m : Nat} (h : IdxOk f m) (s : ByteArray) : IdxOk (fun t => if t = s then some (m : Int) else f t) (m + 1) := by
  intro t v hv
  by_cases e : t = s
  · simp only [e, if_true, Option.some.injEq] at hv
    exact ⟨m, hv.symm, by omega⟩
  · simp only [if_neg e] at hv
    obtain ⟨k, h1, h2⟩ := h t v hv
    exact ⟨k, h1, by omega⟩

def Full (ps : List (List Nat)) : Prop := ∀ j, j < ps.length → ps.getD j [] ≠ []

theorem full_set {ps : List (List Nat)} (h : Full ps) (k i : Nat) : Full (ps.set k (ps.getD k [] ++ [i])) := by
  intro j hj
  simp only [List.length_set] at hj
  by_cases e : k = j
  · subst e
    rw [getD_set_same hj]
    simp
  · rw [getD_set_other e]
    exact h j hj

theorem full_push {ps : List (List Nat)} (h : Full ps) (i : Nat) : Full ((ps ++ [[]]).set ps.length ((ps ++ [[]]).getD ps.length [] ++ [i])) := by
  intro j hj
  simp only [List.length_set, List.length_append, List.length_singleton] at hj
  by_cases e : ps.length = j
  · subst e
    rw [getD_set_same (by simp)]
    simp
  · rw [getD_set_other e, getD_append_left (by omega)]
    exact h j (by omega)

theorem key_end {w wr W : World} {gb pb cap k i g c n sz : Nat} {f : ByteArray → Option Int} {ps : List (List Nat)} {vs : List Value} (ho : MapSI wr w.heap.size n f sz) (hP : Parts wr w.heap.size gb (.slice (some ⟨pb, 0, none⟩) ps.length cap) ps vs) (hbl : Below w.heap.size w wr) (hk : k < ps.length) (X : Obj)
    (h1 : W.ownsRow w.heap.size 30 4 (.slice (some ⟨g, 0, none⟩) ((ps.getD k []).length + 1) c) ((ps.getD k []).length + 1) (stepsOf gb (ps.getD k []) ++ stepCells gb i)) (h2 : (wr.alloc X).drew.grownBy W (vs.getD k undef).ownBlock) (h3 : (vs.getD k undef).ownBlock = some g ∨ g = wr.heap.size + 1) :
    MapSI (W.setCell ⟨pb, k, none⟩ (.slice (some ⟨g, 0, none⟩) ((ps.getD k []).length + 1) c)) w.heap.size n f sz ∧
    Parts (W.setCell ⟨pb, k, none⟩ (.slice (some ⟨g, 0, none⟩) ((ps.getD k []).length + 1) c)) w.heap.size gb (.slice (some ⟨pb, 0, none⟩) ps.length cap) (ps.set k (ps.getD k [] ++ [i])) (vs.set k (.slice (some ⟨g, 0, none⟩) ((ps.getD k []).length + 1) c)) ∧
    Below w.heap.size w (W.setCell ⟨pb, k, none⟩ (.slice (some ⟨g, 0, none⟩) ((ps.getD k []).length + 1) c)) := by
  have h2' : (wr.alloc X).grownBy W (vs.getD k undef).ownBlock := ⟨h2.os, h2.tape, h2.output, h2.size, h2.block⟩
  have hP' := hP.alloc X
  have ho' : MapSI (wr.alloc X) w.heap.size n f sz := mapSI_kept ho (World.grownBy_alloc wr X none) (by simp)
  refine ⟨?_, hP'.grow hk h1 h2' (by simpa using h3), ?_⟩
  · refine mapSI_setCell (mapSI_kept ho' h2' (fun e => map_row ho' (hP'.part k hk) e.symm)) ?_ _
    intro e
    exact map_row ho' hP'.row (by simp [Value.ownBlock, e])
  · refine Below.setCell ((hbl.alloc hbl.size X).grown h2' (by have := hbl.size; simp; omega) (fun q hq => ((hP.part k hk).lt q hq).1)) ?_ _
    exact (hP.row.lt pb rfl).1

theorem part_len {ps : List (List Nat)} {n k : Nat} (h : ps.flatten.Perm (List.range n)) : (ps.getD k []).length ≤ n := by
  have hl : ps.flatten.length = n := by rw [h.length_eq, List.length_range]
  have key : ∀ (ps : List (List Nat)) (k : Nat), (ps.getD k []).length ≤ ps.flatten.length := by
    intro ps
    induction ps with
    | nil => intro k; simp
    | cons p r ih =>
      intro k
      cases k with
      | zero => simp
      | succ k =>
        have := ih k
        simp only [List.getD_cons_succ, List.flatten_cons, List.length_append]
        omega
  have := key ps k
  omega

theorem set_last {α : Type} (l : List α) (x y : α) : (l ++ [x]).set l.length y = l ++ [y] := by
  rw [List.set_append_right _ _ (Nat.le_refl _), Nat.sub_self]
  rfl

theorem key_end_new {w wr W : World} {gb pb cap i g c n sz : Nat} {f : ByteArray → Option Int} {ps : List (List Nat)} {vs : List Value} (ho : MapSI wr w.heap.size n f sz) (hl : vs.length = ps.length)
    (hP : Parts wr w.heap.size gb (.slice (some ⟨pb, 0, none⟩) (ps.length + 1) cap) (ps ++ [[]]) (vs ++ [.slice none 0 0])) (hbl : Below w.heap.size w wr) (X : Obj)
    (h1 : W.ownsRow w.heap.size 30 4 (.slice (some ⟨g, 0, none⟩) 1 c) 1 (stepCells gb i)) (h2 : (wr.alloc X).drew.grownBy W none) (h3 : g = wr.heap.size + 1) :
    MapSI (W.setCell ⟨pb, ps.length, none⟩ (.slice (some ⟨g, 0, none⟩) 1 c)) w.heap.size n f sz ∧
    Parts (W.setCell ⟨pb, ps.length, none⟩ (.slice (some ⟨g, 0, none⟩) 1 c)) w.heap.size gb (.slice (some ⟨pb, 0, none⟩) (ps.length + 1) cap) (ps ++ [[i]]) (vs ++ [.slice (some ⟨g, 0, none⟩) 1 c]) ∧
    Below w.heap.size w (W.setCell ⟨pb, ps.length, none⟩ (.slice (some ⟨g, 0, none⟩) 1 c)) := by
  have hlp : (ps ++ [[]]).length = ps.length + 1 := by simp
  have hd : (ps ++ [[]]).getD ps.length [] = [] := getD_append_last
  have hv : (vs ++ [Value.slice none 0 0]).getD ps.length undef = .slice none 0 0 := by rw [← hl]; exact getD_append_last
  rw [← hlp] at hP
  have := key_end (i := i) (g := g) (c := c) ho hP hbl (k := ps.length) (by simp) X (by rw [hd]; exact h1) (by rw [hv]; exact h2) (Or.inr h3)
  rw [hd] at this
  refine ⟨this.1, ?_, this.2.2⟩
  have h4 := this.2.1
  rw [hlp, set_last, ← hl, set_last] at h4
  rw [← hl]
  exact h4

theorem full_snoc {ps : List (List Nat)} (h : Full ps) (i : Nat) : Full (ps ++ [[i]]) := by
  have := full_push h i
  rw [set_last, getD_append_last] at this
  exact this

theorem perm_snoc {ps : List (List Nat)} {n : Nat} (h : ps.flatten.Perm (List.range n)) : (ps ++ [[n]]).flatten.Perm (List.range (n + 1)) := by
  have := perm_set (k := ps.length) (perm_push h) (by simp)
  rw [set_last, getD_append_last] at this
  exact this

theorem one_cell_new (w : World) (x : Value) (t : TypeId) : ∀ j u, [x][j]? = some u → (w.alloc (.cells #[x] t)).cell? ((⟨w.heap.size, 0, none⟩ : Addr).add j) = some u := cell_one_new w x t

set_option maxRecDepth 100000 in
set_option maxHeartbeats 2000000 in
theorem byKey (gb n cap0 : Nat) (hn : n ≤ 65536) (Z : Nat → ZOp) (w : World) (hz : ∀ t, t < n → (Z t).key.size ≤ maxLen)
    (hb : ∀ t, t < n → w.rangeAt gb (t * 8) (Z t).cells) :
    Calls Try.prog 26 #[.slice (some ⟨gb, 0, none⟩) n cap0] w (ByKeySaid gb n w) := by
  have hmm := @run_makeMap Try.prog
  obtain ⟨i25, hi25, hz250, hz251, hz252⟩ := info_parts Try.info25
  obtain ⟨i30, hi30, hz300, hz301, hz302⟩ := info_parts Try.info30
  have Hb : Hid (∀ t, t < n → w.rangeAt gb (t * 8) (Z t).cells) := hb
  have Hz : Hid (∀ t, t < n → (Z t).key.size ≤ maxLen) := hz
  clear hb hz
  go_enter Try.func26, Try.ntmps26
  go_wp2_with fail
  have H0 : Hid (MapSI (w.alloc (.map #[] 0)) w.heap.size 0 (fun _ => none) 0) := mapSI_made w
  go_loopw [4, 11] (fun V v wr => ∃ (i : Nat) (f : ByteArray → Option Int) (sz : Nat) (ps : List (List Nat)) (vs : List Value) (a : Option Addr) (cap : Nat), i ≤ n ∧ v = .int .i64 i ∧ V = .slice a ps.length cap ∧ ps.length ≤ i ∧
      Hid (MapSI wr w.heap.size i f sz) ∧ Hid (IdxOk f ps.length) ∧ Hid (Parts wr w.heap.size gb (.slice a ps.length cap) ps vs) ∧ Hid (Full ps) ∧ Hid (ps.flatten.Perm (List.range i)) ∧ Hid (Below w.heap.size w wr)) (fun _ v _ => n - (intOf v).toNat)
  case atStart => exact ⟨0, fun _ => none, 0, [], [], none, 0, Nat.zero_le _, rfl, rfl, Nat.le_refl _, H0, (fun s v h => by cases h), parts_zero _ _ _, (fun _ hj => absurd hj (Nat.not_lt_zero _)), List.Perm.refl _, (Below.refl _ _).alloc (Nat.le_refl _) _⟩
  case round =>
    obtain ⟨i, f, sz, ps, vs, a, cap, hi, rfl, rfl, hpl, ho, hidx, hP, hF, hperm, hbl⟩ := hrel
    by_cases hlt : i < n
    · have hop := Hb.out i hlt
      have hval := Hz.out i hlt
      have l2 := Lib.lt_of_cell (hop 0 _ rfl)
      have hsz := hbl.out.size
      have hop' := range_below hop hbl.out l2
      have c2 := hop' 2 _ rfl
      have l2' : gb < wr.heap.size := Nat.lt_of_lt_of_le l2 hsz
      clear hop hop'
      have hlook := mapSI_look ho.out (Z i).key hval
      have hin0 : (0 : Int) ≤ (i : Int) := Int.natCast_nonneg _
      have hin1 : (i : Int) < (n : Int) := by omega
      cases hf : f (Z i).key with
      | some q =>
        obtain ⟨k, rfl, hk⟩ := hidx.out _ _ hf
        rw [hf] at hlook
        simp only [Option.isSome, Option.getD] at hlook
        have hk0 : (0 : Int) ≤ (k : Int) := Int.natCast_nonneg _
        have hk1 : (k : Int) < (ps.length : Int) := by omega
        obtain ⟨pb, cap', hV, hpb1, hpb2⟩ := hP.out.row.form (by omega)
        simp only [Value.slice.injEq, true_and] at hV
        obtain ⟨rfl, rfl⟩ := hV
        have hcell : wr.cell? ⟨pb, k, none⟩ = some (vs.getD k undef) := by
          have := hP.out.len
          rw [hP.out.row.cellAt k (by omega), List.getElem?_eq_getElem (by omega)]
          simp [List.getD, List.getElem?_eq_getElem (show k < vs.length by omega)]
        have hfro := hP.out.row.frozenAt k
        have hown := hP.out.part k hk
        have Hown : Hid (wr.ownsRow w.heap.size 30 4 (vs.getD k undef) (ps.getD k []).length (stepsOf gb (ps.getD k []))) := hown
        clear hf hown
        have hfro2 : (wr.alloc (.cells #[.pointer (some ⟨gb, i * 8, none⟩), .int .i64 0, .bool false, .pointer none] 30)).frozen? ⟨pb, k, none⟩ = false := by rw [World.frozen?_alloc_past _ _ _ hpb2]; exact hfro
        have hcell2 : (wr.alloc (.cells #[.pointer (some ⟨gb, i * 8, none⟩), .int .i64 0, .bool false, .pointer none] 30)).cell? ⟨pb, k, none⟩ = some (vs.getD k undef) := by rw [World.cell?_alloc_lt _ _ _ hpb2]; exact hcell
        have hapart : (vs.getD k undef).ownBlock ≠ some pb := rows_apart hP.out.row (hP.out.part k hk) (by decide) rfl
        have hend : Hid (∀ (W : World) (g c : Nat), W.ownsRow w.heap.size 30 4 (.slice (some ⟨g, 0, none⟩) ((ps.getD k []).length + 1) c) ((ps.getD k []).length + 1) (stepsOf gb (ps.getD k []) ++ stepCells gb i) → (wr.alloc (.cells #[.pointer (some ⟨gb, i * 8, none⟩), .int .i64 0, .bool false, .pointer none] 30)).drew.grownBy W (vs.getD k undef).ownBlock → ((vs.getD k undef).ownBlock = some g ∨ g = wr.heap.size + 1) →
            MapSI (W.setCell ⟨pb, k, none⟩ (.slice (some ⟨g, 0, none⟩) ((ps.getD k []).length + 1) c)) w.heap.size i f sz ∧
            Parts (W.setCell ⟨pb, k, none⟩ (.slice (some ⟨g, 0, none⟩) ((ps.getD k []).length + 1) c)) w.heap.size gb (.slice (some ⟨pb, 0, none⟩) ps.length cap) (ps.set k (ps.getD k [] ++ [i])) (vs.set k (.slice (some ⟨g, 0, none⟩) ((ps.getD k []).length + 1) c)) ∧
            Below w.heap.size w (W.setCell ⟨pb, k, none⟩ (.slice (some ⟨g, 0, none⟩) ((ps.getD k []).length + 1) c))) := fun W g c h1 h2 h3 => key_end ho.out hP.out hbl.out hk _ h1 h2 h3
        have Hperm2 : Hid ((ps.set k (ps.getD k [] ++ [i])).flatten.Perm (List.range (i + 1))) := perm_set hperm.out hk
        have HF2 : Hid (Full (ps.set k (ps.getD k [] ++ [i]))) := full_set hF.out k i
        have hnl : (ps.getD k []).length ≤ 65536 := Nat.le_trans (part_len hperm.out) (by omega)
        generalize hps : ps.getD k [] = p at *
        generalize hvk : vs.getD k undef = vk at *
        go_wp2_with fail
        go_region_law
          ((refine step_append_lies _ (by rfl) _ _ _ (by rfl) w.heap.size 30 i30 _ 4 32 Try.underlying25 hi30 hz300 hz301 hz302 rfl (by omega) vk p.length (stepsOf gb p) (by rfl) ((Hown.out.alloc _).drew)
              ⟨wr.heap.size, 0, none⟩ 1 1 (stepCells gb i) (by rfl) (by rfl) (World.news_of_block (cs := #[.pointer (some ⟨gb, i * 8, none⟩), .int .i64 0, .bool false, .pointer none]) (t := 30) (fr := (0, 0)) (heap_alloc_new wr _)) (by simp [stepCells, Value.oneCell'])
              (by omega) (by unfold maxLen; omega) (by omega) (by simp; omega) (wr.heap.size + 1) (by simp) ?_; intro gg cap1 w1 hown1 hgrow hat hlt1; have hfz : w1.frozen? ⟨pb, k, none⟩ = false := (hgrow.frozen_far _ (by simp; omega) (Ne.symm hapart)).trans hfro2; have hcz : w1.cell? ⟨pb, k, none⟩ = some vk := (hgrow.cell_far _ (by simp; omega) (Ne.symm hapart)).trans hcell2))
        all_goals
          obtain ⟨e1, e2, e3⟩ := hend.out w1 gg cap1 hown1 hgrow hat
          have E1 : Hid _ := e1
          have E2 : Hid _ := e2
          have E3 : Hid _ := e3
          clear e1 e2 e3 hown1 hgrow hat
          go_wp2_with fail
          refine ⟨⟨i + 1, f, sz, ps.set k (p ++ [i]), _, some ⟨pb, 0, none⟩, cap, by omega, by simp, by simp, by simp; omega, mapSI_mono E1 (by omega), by simpa using hidx, by simpa using E2, HF2, Hperm2, E3⟩, by simp [intOf]; omega⟩
      | none =>
        rw [hf] at hlook
        simp only [Option.isSome, Option.getD] at hlook
        clear hf
        have Hlen : Hid (vs.length = ps.length) := hP.out.len
        have Hi2 : Hid (IdxOk (fun t => if t = (Z i).key then some (ps.length : Int) else f t) (ps.length + 1)) := idx_put hidx.out _
        go_wp2_with (first
          | (at_mapUpdate; refine wpList_put_SI _ rfl (.tmp 28) (.tmp 33) (.tmp 34) rfl w.heap.size i _ f rfl ho.out (by unfold maxLen; omega) (Z i).key hval (ps.length : Int) rfl rfl (wf_small _ (by omega)) ?_; intro w2 hm2 hg2; have hP2 : Hid (Parts w2 w.heap.size gb (.slice a ps.length cap) ps vs) := hP.out.mapped ho.out hg2; have hm2' : Hid (∃ sz', MapSI w2 w.heap.size (i + 1) (fun t => if t = (Z i).key then some (ps.length : Int) else f t) sz') := ⟨_, hm2⟩; have hbl2 : Hid (Below w.heap.size w w2) := hbl.out.grown hg2 hbl.out.size (fun q hq => by cases hq; exact Nat.le_refl _); clear hm2 hg2)
          | (at_builtin; refine wpList_append_lies _ rfl (.tmp 35) (.tmp 36) 44 rfl w.heap.size 25 i25 _ 1 24 Try.underlying44 hi25 hz250 hz251 hz252 rfl (by omega) (.slice a ps.length cap) ps.length vs rfl (hP2.out.row.alloc _) ⟨w2.heap.size, 0, none⟩ 1 1 [.slice none 0 0] rfl rfl (one_cell_new _ _ _) (by simp [Value.oneCell']) (by omega) (by unfold maxLen; omega) (by omega) (by have := hbl2.out.size; simp; omega) (w2.heap.size + 1) (by simp) ?_; intro pb cap1 w3 hown3 hgrow3 hat3 hlt3))
        obtain ⟨sz', hm2⟩ := hm2'.out
        have hg3 : (w2.alloc (.cells #[.slice none 0 0] 25)).grownBy w3 (Value.slice a ps.length cap).ownBlock := hgrow3
        have hma : MapSI (w2.alloc (.cells #[.slice none 0 0] 25)) w.heap.size (i + 1) (fun t => if t = (Z i).key then some (ps.length : Int) else f t) sz' := mapSI_kept hm2 (World.grownBy_alloc w2 _ none) (by simp)
        have hPa := hP2.out.alloc (.cells #[.slice none 0 0] 25)
        have hm3 : MapSI w3 w.heap.size (i + 1) (fun t => if t = (Z i).key then some (ps.length : Int) else f t) sz' := mapSI_kept hma hg3 (fun e => map_row hma hPa.row e.symm)
        have hP3 : Parts w3 w.heap.size gb (.slice (some ⟨pb, 0, none⟩) (ps.length + 1) cap1) (ps ++ [[]]) (vs ++ [.slice none 0 0]) := hPa.push hown3 hg3
        have hbl3 : Below w.heap.size w w3 := (hbl2.out.alloc hbl2.out.size _).grown hg3 (by have := hbl2.out.size; simp; omega) (fun q hq => (hP2.out.row.lt q hq).1)
        have hpb2 : pb < w3.heap.size := hlt3
        have hs3 := hbl3.size
        have hcell : w3.cell? ⟨pb, ps.length, none⟩ = some (.slice none 0 0) := by
          rw [hown3.cellAt ps.length (by omega), ← Hlen.out]
          simp
        have hfro := hown3.frozenAt ps.length
        have hfro2 : (w3.alloc (.cells #[.pointer (some ⟨gb, i * 8, none⟩), .int .i64 0, .bool false, .pointer none] 30)).frozen? ⟨pb, ps.length, none⟩ = false := by rw [World.frozen?_alloc_past _ _ _ hpb2]; exact hfro
        have hcell2 : (w3.alloc (.cells #[.pointer (some ⟨gb, i * 8, none⟩), .int .i64 0, .bool false, .pointer none] 30)).cell? ⟨pb, ps.length, none⟩ = some (.slice none 0 0) := by rw [World.cell?_alloc_lt _ _ _ hpb2]; exact hcell
        have hend : Hid (∀ (W : World) (g c : Nat), W.ownsRow w.heap.size 30 4 (.slice (some ⟨g, 0, none⟩) 1 c) 1 (stepCells gb i) → (w3.alloc (.cells #[.pointer (some ⟨gb, i * 8, none⟩), .int .i64 0, .bool false, .pointer none] 30)).drew.grownBy W none → g = w3.heap.size + 1 →
            MapSI (W.setCell ⟨pb, ps.length, none⟩ (.slice (some ⟨g, 0, none⟩) 1 c)) w.heap.size (i + 1) (fun t => if t = (Z i).key then some (ps.length : Int) else f t) sz' ∧
            Parts (W.setCell ⟨pb, ps.length, none⟩ (.slice (some ⟨g, 0, none⟩) 1 c)) w.heap.size gb (.slice (some ⟨pb, 0, none⟩) (ps.length + 1) cap1) (ps ++ [[i]]) (vs ++ [.slice (some ⟨g, 0, none⟩) 1 c]) ∧
            Below w.heap.size w (W.setCell ⟨pb, ps.length, none⟩ (.slice (some ⟨g, 0, none⟩) 1 c))) := fun W g c h1 h2 h3 => key_end_new hm3 Hlen.out hP3 hbl3 _ h1 h2 h3
        have Hperm2 : Hid ((ps ++ [[i]]).flatten.Perm (List.range (i + 1))) := perm_snoc hperm.out
        have HF2 : Hid (Full (ps ++ [[i]])) := full_snoc hF.out i
        have hk0 : (0 : Int) ≤ (ps.length : Int) := Int.natCast_nonneg _
        have hk1 : (ps.length : Int) < (ps.length : Int) + 1 := by omega
        have hk2 : ps.length < ps.length + 1 := by omega
        clear hg3 hma hPa hm3 hP3 hm2 hgrow3 hat3 hown3 hlook c2
        go_region_law
          ((refine step_append_lies _ (by rfl) _ _ _ (by rfl) w.heap.size 30 i30 _ 4 32 Try.underlying25 hi30 hz300 hz301 hz302 rfl (by omega) (.slice none 0 0) 0 [] (by rfl) (World.ownsRow_nil _ _ _ _)
              ⟨w3.heap.size, 0, none⟩ 1 1 (stepCells gb i) (by rfl) (by rfl) (World.news_of_block (cs := #[.pointer (some ⟨gb, i * 8, none⟩), .int .i64 0, .bool false, .pointer none]) (t := 30) (fr := (0, 0)) (heap_alloc_new w3 _)) (by simp [stepCells, Value.oneCell'])
              (by omega) (by unfold maxLen; omega) (by omega) (by simp; omega) (w3.heap.size + 1) (by simp) ?_; intro gg cap2 w4 hown1 hgrow hat hlt1; have hfz : w4.frozen? ⟨pb, ps.length, none⟩ = false := (hgrow.frozen_far _ (by simp; omega) (by simp [Value.ownBlock])).trans hfro2; have hcz : w4.cell? ⟨pb, ps.length, none⟩ = some (.slice none 0 0) := (hgrow.cell_far _ (by simp; omega) (by simp [Value.ownBlock])).trans hcell2))
        all_goals
          obtain ⟨e1, e2, e3⟩ := hend.out w4 gg cap2 hown1 hgrow (hat.resolve_left (by simp [Value.ownBlock]))
          have E1 : Hid _ := e1
          have E2 : Hid _ := e2
          have E3 : Hid _ := e3
          clear e1 e2 e3 hown1 hgrow hat
          go_wp2_with fail
          refine ⟨⟨i + 1, _, sz', ps ++ [[i]], _, some ⟨pb, 0, none⟩, cap1, by omega, by simp, by simp, by simp; omega, E1, by simpa using Hi2, by simpa using E2, HF2, Hperm2, E3⟩, by simp [intOf]; omega⟩
    · have e : i = n := by omega
      subst e
      go_wp2_with fail
      go_ret
      exact ⟨hbl, a, cap, ps, vs, rfl, hP, hF, hperm⟩

set_option maxRecDepth 100000 in
set_option maxHeartbeats 1000000 in
theorem zzbyKey (gb n cap0 : Nat) (hn : n ≤ 65536) (Z : Nat → ZOp) (w : World) (hz : ∀ t, t < n → (Z t).key.size ≤ maxLen)
    (hb : ∀ t, t < n → w.rangeAt gb (t * 8) (Z t).cells) :
    Calls Try.prog 15 #[.slice (some ⟨gb, 0, none⟩) n cap0] w (ByKeySaid gb n w) := by
  have hc := byKey gb n cap0 hn Z w hz hb
  clear hz hb
  go_enter Try.func15, Try.ntmps15
  go_wp2_with fail
  refine hc.mono ?_
  rintro e w1 ⟨h1, a, cap, ps, vs, rfl, h2, h3, h4⟩
  have H1 : Hid (ByKeySaid gb n w (.returned (.slice a ps.length cap)) w1) := ⟨h1, a, cap, ps, vs, rfl, h2, h3, h4⟩
  clear h1 h2 h3 h4
  go_wp2_with fail
  go_ret
  exact H1
end Go.Proofs.Qxb6602630a
