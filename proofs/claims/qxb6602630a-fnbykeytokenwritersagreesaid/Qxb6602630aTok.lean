/-
  tokenWriters: the map from each value written to its place, or nil.
-/
import Derived.Test.Qxb6602630aMaps
import Derived.WalkArith
namespace Go.Proofs.Qxb6602630a
open Go.RowKit Go.PlainAid

def isGet (z : ZOp) : Bool := z.kind.toList == [103, 101, 116]
/-- a token: '[', no bracket, ']' -/
def tok (v : ByteArray) : Bool := if 2 ≤ v.size then (if bt v 0 = 91 then (if bt v (v.size - 1) = 93 then !cany (v.extract 1 (v.size - 1)) else false) else false) else false

/-- the writes among the first k -/
def nW (O : Nat → ZOp) : Nat → Nat
  | 0 => 0
  | k + 1 => nW O k + (if isGet (O k) then 0 else 1)

def Inv (O : Nat → ZOp) (k : Nat) (f : ByteArray → Option Int) : Prop :=
  (∀ t, t < k → isGet (O t) = false → tok (O t).val = true ∧ f (O t).val = some (t : Int)) ∧ (∀ s v, f s = some v → ∃ t, t < k ∧ v = (t : Int) ∧ isGet (O t) = false ∧ (O t).val = s)

def Bad (O : Nat → ZOp) (m : Nat) : Prop := ∃ t, t < m ∧ isGet (O t) = false ∧ (tok (O t).val = false ∨ ∃ u, u < t ∧ isGet (O u) = false ∧ (O u).val = (O t).val)

def WritersSaid (O : Nat → ZOp) (m : Nat) (w : World) (e : Ending) (w' : World) : Prop :=
  Below w.heap.size w w' ∧ ((e = .returned (.map none) ∧ Bad O m) ∨ (∃ b f, e = .returned (.map (some b)) ∧ w.heap.size ≤ b ∧ MapSI w' b m f (nW O m) ∧ Inv O m f))

def stepCells (gb i : Nat) : List Value := [.pointer (some ⟨gb, i * 8, none⟩), .int .i64 0, .bool false, .pointer none]

theorem inv_zero (O : Nat → ZOp) : Inv O 0 (fun _ => none) := ⟨(fun t h => absurd h (Nat.not_lt_zero _)), (fun s v h => by cases h)⟩
theorem inv_get {O : Nat → ZOp} {k : Nat} {f : ByteArray → Option Int} (h : Inv O k f) (hg : isGet (O k) = true) : Inv O (k + 1) f := by
  refine ⟨fun t ht hn => ?_, fun s v hs => ?_⟩
  · by_cases e : t = k
    · subst e; rw [hg] at hn; cases hn
    · exact h.1 t (by omega) hn
  · obtain ⟨t, h1, h2⟩ := h.2 s v hs
    exact ⟨t, by omega, h2⟩
theorem inv_put {O : Nat → ZOp} {k : Nat} {f : ByteArray → Option Int} (h : Inv O k f) (hg : isGet (O k) = false) (ht : tok (O k).val = true) (hn : f (O k).val = none) :
    Inv O (k + 1) (fun t => if t = (O k).val then some (k : Int) else f t) := by
  refine ⟨fun t htl hw => ?_, fun s v hs => ?_⟩
  · by_cases e : t = k
    · subst e; exact ⟨ht, by simp⟩
    · have h1 := h.1 t (by omega) hw
      refine ⟨h1.1, ?_⟩
      have hne : (O t).val ≠ (O k).val := by
        intro e2
        have h2 := h1.2
        rw [e2, hn] at h2
        cases h2
      simp only [if_neg hne]
      exact h1.2
  · by_cases e : s = (O k).val
    · simp only [e, if_true, Option.some.injEq] at hs
      exact ⟨k, by omega, hs.symm, hg, e.symm⟩
    · simp only [if_neg e] at hs
      obtain ⟨t, h1, h2⟩ := h.2 s v hs
      exact ⟨t, by omega, h2⟩

theorem wf_small (i : Nat) (h : i ≤ 65536) : (Lit.int .i64 (i : Int)).wf = true := WalkArith.wf_i64 ⟨by omega, by omega⟩

theorem tok_true {v : ByteArray} (h : tok v = true) : 2 ≤ v.size ∧ bt v 0 = 91 ∧ bt v (v.size - 1) = 93 ∧ cany (v.extract 1 (v.size - 1)) = false := by
  unfold tok at h
  split at h
  · split at h
    · split at h
      · simp at h
        exact ⟨by assumption, by assumption, by assumption, h⟩
      · cases h
    · cases h
  · cases h

theorem tok_false {v : ByteArray} (h : tok v = false) : ¬ 2 ≤ v.size ∨ (2 ≤ v.size ∧ ¬ bt v 0 = 91) ∨ (2 ≤ v.size ∧ bt v 0 = 91 ∧ ¬ bt v (v.size - 1) = 93) ∨ (2 ≤ v.size ∧ bt v 0 = 91 ∧ bt v (v.size - 1) = 93 ∧ cany (v.extract 1 (v.size - 1)) = true) := by
  unfold tok at h
  split at h
  · split at h
    · split at h
      · simp at h
        exact Or.inr (Or.inr (Or.inr ⟨by assumption, by assumption, by assumption, h⟩))
      · exact Or.inr (Or.inr (Or.inl ⟨by assumption, by assumption, by assumption⟩))
    · exact Or.inr (Or.inl ⟨by assumption, by assumption⟩)
  · exact Or.inl (by assumption)

theorem bad_tok {O : Nat → ZOp} {m i : Nat} (hi : i < m) (hg : isGet (O i) = false) (ht : tok (O i).val = false) : Bad O m := ⟨i, hi, hg, Or.inl ht⟩
theorem bad_twice {O : Nat → ZOp} {m i : Nat} {f : ByteArray → Option Int} (h : Inv O i f) (hi : i < m) (hg : isGet (O i) = false) {q : Int} (hf : f (O i).val = some q) : Bad O m := by
  obtain ⟨u, h1, _, h3, h4⟩ := h.2 _ _ hf
  exact ⟨i, hi, hg, Or.inr ⟨u, h1, h3, h4⟩⟩

set_option maxRecDepth 100000 in
set_option maxHeartbeats 1000000 in
theorem writers (sb gb m cap : Nat) (hm : m ≤ 65536) (J : Nat → Nat) (Z : Nat → ZOp) (w : World) (hz : ∀ t, t < m → (Z (J t)).val.size ≤ 1048576)
    (hs : ∀ t, t < m → w.rangeAt sb (t * 4) (stepCells gb (J t))) (hb : ∀ t, t < m → w.rangeAt gb (J t * 8) (Z (J t)).cells) :
    Calls Try.prog 24 #[.slice (some ⟨sb, 0, none⟩) m cap] w (WritersSaid (fun t => Z (J t)) m w) := by
  have hmm := @run_makeMap Try.prog
  have Hs : Hid (∀ t, t < m → w.rangeAt sb (t * 4) (stepCells gb (J t))) := hs
  have Hb : Hid (∀ t, t < m → w.rangeAt gb (J t * 8) (Z (J t)).cells) := hb
  have Hz : Hid (∀ t, t < m → (Z (J t)).val.size ≤ 1048576) := hz
  clear hs hb hz
  go_enter Try.func24, Try.ntmps24
  go_wp2_with fail
  have H0 : Hid (MapSI (w.alloc (.map #[] 0)) w.heap.size 0 (fun _ => none) 0) := mapSI_made w
  go_loopw [13] (fun v wr => ∃ (i : Nat) (f : ByteArray → Option Int), i ≤ m ∧ v = .int .i64 i ∧ Hid (MapSI wr w.heap.size i f (nW (fun t => Z (J t)) i)) ∧ Hid (Inv (fun t => Z (J t)) i f) ∧ Hid (Below w.heap.size w wr)) (fun v _ => m - (intOf v).toNat)
  case atStart => exact ⟨0, fun _ => none, Nat.zero_le _, rfl, H0, inv_zero _, (Below.refl _ _).alloc (Nat.le_refl _) _⟩
  case round =>
    obtain ⟨i, f, hi, rfl, ho, hinv, hbl⟩ := hrel
    by_cases hlt : i < m
    · have hst := Hs.out i hlt
      have hop := Hb.out i hlt
      have hval := Hz.out i hlt
      have l1 := Lib.lt_of_cell (hst 0 _ rfl)
      have l2 := Lib.lt_of_cell (hop 0 _ rfl)
      have hsz := hbl.out.size
      have hst' := range_below hst hbl.out l1
      have hop' := range_below hop hbl.out l2
      have s0 := hst' 0 _ rfl
      have s1 := hst' 1 _ rfl
      have s2 := hst' 2 _ rfl
      have s3 := hst' 3 _ rfl
      have c1 := hop' 1 _ rfl
      have c3 := hop' 3 _ rfl
      simp only [Nat.add_zero] at s0
      have l1' : sb < wr.heap.size := Nat.lt_of_lt_of_le l1 hsz
      have l2' : gb < wr.heap.size := Nat.lt_of_lt_of_le l2 hsz
      clear hst hop hst' hop'
      have hlook := fun (W : World) (hW : MapSI W w.heap.size i f (nW (fun t => Z (J t)) i)) => mapSI_look hW (Z (J i)).val (by unfold maxLen; omega)
      cases hg : isGet (Z (J i)) with
      | true =>
        have Hg : Hid (isGet (Z (J i)) = true) := hg
        unfold isGet at hg
        clear hlook
        go_wp2_with fail
        refine ⟨⟨i + 1, f, by omega, by simp, ?_, inv_get hinv Hg, hbl.out.alloc hsz _⟩, by simp [intOf]; omega⟩
        show MapSI _ _ (i + 1) f (nW (fun t => Z (J t)) i + _)
        rw [if_pos Hg.out]
        exact mapSI_mono (mapSI_kept ho.out (World.grownBy_alloc wr _ none) (by simp)) (by omega)
      | false =>
        have Hg : Hid (isGet (Z (J i)) = false) := hg
        unfold isGet at hg
        have Hl : Hid (∀ W : World, MapSI W w.heap.size i f (nW (fun t => Z (J t)) i) → (Instr.lookup 31 (.map (some w.heap.size)) (.string (Z (J i)).val) true).run Try.prog W = .ok (.tuple #[.int .i64 ((f (Z (J i)).val).getD 0), .bool (f (Z (J i)).val).isSome]) W) := hlook
        clear hlook
        have Hbt : Hid (tok (Z (J i)).val = false → Bad (fun t => Z (J t)) m) := fun h => bad_tok hlt Hg.out h
        have Hbw : Hid (∀ q, f (Z (J i)).val = some q → Bad (fun t => Z (J t)) m) := fun q h => bad_twice hinv.out hlt Hg.out h
        have Hp : Hid (tok (Z (J i)).val = true → f (Z (J i)).val = none → Inv (fun t => Z (J t)) (i + 1) (fun t => if t = (Z (J i)).val then some (i : Int) else f t)) := fun h1 h2 => inv_put hinv.out Hg.out h1 h2
        have hnW : nW (fun t => Z (J t)) (i + 1) = nW (fun t => Z (J t)) i + 1 := by
          show nW (fun t => Z (J t)) i + _ = _
          rw [if_neg (by rw [Hg.out]; simp)]
        have HnW : Hid _ := hnW
        clear hnW
        have hb1 : Below w.heap.size w (wr.alloc (.cells #[.pointer (some ⟨gb, J i * 8, none⟩), .int .i64 0, .bool false, .pointer none] 30)) := hbl.out.alloc hsz _
        have hm1 : MapSI (wr.alloc (.cells #[.pointer (some ⟨gb, J i * 8, none⟩), .int .i64 0, .bool false, .pointer none] 30)) w.heap.size i f (nW (fun t => Z (J t)) i) := mapSI_kept ho.out (World.grownBy_alloc wr _ none) (by simp)
        have hlk1 := Hl.out _ hm1
        have Hb1 : Hid _ := hb1
        have Hm1 : Hid (MapSI (wr.alloc (.cells #[.pointer (some ⟨gb, J i * 8, none⟩), .int .i64 0, .bool false, .pointer none] 30)) w.heap.size i f (nW (fun t => Z (J t)) i)) := hm1
        clear hb1 hm1
        have hgb := get_bt (Z (J i)).val
        have hca := fun W => contains_any ((Z (J i)).val.extract 1 ((Z (J i)).val.size - 1)) (by rw [ByteArray.size_extract]; omega) W
        cases htk : tok (Z (J i)).val with
        | false =>
          have HB : Hid (Bad (fun t => Z (J t)) m) := Hbt.out htk
          have Hend : Hid (∀ w', Below w.heap.size w w' → WritersSaid (fun t => Z (J t)) m w (.returned (.map none)) w') := fun w' h => ⟨h, Or.inl ⟨rfl, HB.out⟩⟩
          rcases tok_false htk with h | ⟨h, h1⟩ | ⟨h, h1, h2⟩ | ⟨h, h1, h2, h3⟩
          · clear hca
            generalize (f (Z (J i)).val).isSome = tw at *
            cases tw <;>
            · go_wp2_with fail
              go_ret
              exact Hend.out _ Hb1
          · clear hca
            generalize (f (Z (J i)).val).isSome = tw at *
            cases tw <;>
            · go_wp2_with fail
              go_ret
              exact Hend.out _ Hb1
          · clear hca
            generalize (f (Z (J i)).val).isSome = tw at *
            cases tw <;>
            · go_wp2_with fail
              go_ret
              exact Hend.out _ Hb1
          · have Hca : Hid (∀ W, Calls Try.prog 27 #[.string ((Z (J i)).val.extract 1 ((Z (J i)).val.size - 1)), .string ⟨#[91, 93]⟩] W fun e w' => e = .returned (.bool (cany ((Z (J i)).val.extract 1 ((Z (J i)).val.size - 1)))) ∧ Below W.heap.size W w') := hca
            clear hca
            have H3 : Hid (cany ((Z (J i)).val.extract 1 ((Z (J i)).val.size - 1)) = true) := h3
            clear h3
            go_wp2_with fail
            refine (Hca.out _).mono ?_
            rintro e w2 ⟨rfl, hb2⟩
            rw [H3.out]
            have hb3 := Hb1.out.trans (hb2.mono Hb1.out.size)
            have hlk2 := Hl.out w2 (mapSI_below Hm1.out hb2 (mapSI_lt Hm1.out))
            have Hb3 : Hid (Below w.heap.size w w2) := hb3
            clear hb2 hb3
            generalize (f (Z (J i)).val).isSome = tw at *
            cases tw <;>
            · go_wp2_with fail
              go_ret
              exact Hend.out _ Hb3
        | true =>
          obtain ⟨h, h1, h2, h3⟩ := tok_true htk
          have Hca : Hid (∀ W, Calls Try.prog 27 #[.string ((Z (J i)).val.extract 1 ((Z (J i)).val.size - 1)), .string ⟨#[91, 93]⟩] W fun e w' => e = .returned (.bool (cany ((Z (J i)).val.extract 1 ((Z (J i)).val.size - 1)))) ∧ Below W.heap.size W w') := hca
          clear hca
          have H3 : Hid (cany ((Z (J i)).val.extract 1 ((Z (J i)).val.size - 1)) = false) := h3
          clear h3
          go_wp2_with fail
          refine (Hca.out _).mono ?_
          rintro e w2 ⟨rfl, hb2⟩
          rw [H3.out]
          have hb3 := Hb1.out.trans (hb2.mono Hb1.out.size)
          have hm2 := mapSI_below Hm1.out hb2 (mapSI_lt Hm1.out)
          have hlk2 := Hl.out w2 hm2
          have Hm2 : Hid (MapSI w2 w.heap.size i f (nW (fun t => Z (J t)) i)) := hm2
          have Hb3 : Hid (Below w.heap.size w w2) := hb3
          clear hb2 hb3 hm2 hlk1
          cases hf : f (Z (J i)).val with
          | some q =>
            have HB : Hid (Bad (fun t => Z (J t)) m) := Hbw.out q hf
            rw [hf] at hlk2
            simp only [Option.isSome, Option.getD] at hlk2
            go_wp2_with fail
            go_ret
            exact ⟨Hb3, Or.inl ⟨rfl, HB⟩⟩
          | none =>
            have HI := Hp.out htk hf
            have Hfn : Hid (f (Z (J i)).val = none) := hf
            rw [hf] at hlk2
            simp only [Option.isSome, Option.getD] at hlk2
            clear hf
            have HI2 : Hid (Inv (fun t => Z (J t)) (i + 1) (fun t => if t = (Z (J i)).val then some (i : Int) else f t)) := HI
            clear HI
            go_wp2_with (at_mapUpdate; refine wpList_put_SI _ rfl (.tmp 65) (.tmp 66) (.tmp 67) rfl w.heap.size i _ f rfl Hm2.out (by unfold maxLen; omega) (Z (J i)).val (by unfold maxLen; omega) (i : Int) rfl rfl (wf_small i (by omega)) ?_; intro w3 hm3 hg3)
            rw [Hfn.out] at hm3
            have Hm3 : Hid (MapSI w3 w.heap.size (i + 1) (fun t => if t = (Z (J i)).val then some (i : Int) else f t) (nW (fun t => Z (J t)) (i + 1))) := by
              rw [HnW.out]
              exact hm3
            have Hb4 : Hid (Below w.heap.size w w3) := Hb3.out.grown hg3 Hb3.out.size (fun k hk => by cases hk; exact Nat.le_refl _)
            clear hm3 hg3
            go_wp2_with fail
            exact ⟨⟨i + 1, _, by omega, by simp, Hm3, HI2, Hb4⟩, by simp [intOf]; omega⟩
    · have e : i = m := by omega
      subst e
      go_wp2_with fail
      go_ret
      exact ⟨hbl, Or.inr ⟨_, _, rfl, Nat.le_refl _, ho, hinv⟩⟩

set_option maxRecDepth 100000 in
set_option maxHeartbeats 1000000 in
theorem zzwriters (sb gb m cap : Nat) (hm : m ≤ 65536) (J : Nat → Nat) (Z : Nat → ZOp) (w : World) (hz : ∀ t, t < m → (Z (J t)).val.size ≤ 1048576)
    (hs : ∀ t, t < m → w.rangeAt sb (t * 4) (stepCells gb (J t))) (hb : ∀ t, t < m → w.rangeAt gb (J t * 8) (Z (J t)).cells) :
    Calls Try.prog 10 #[.slice (some ⟨sb, 0, none⟩) m cap] w (WritersSaid (fun t => Z (J t)) m w) := by
  have hc := writers sb gb m cap hm J Z w hz hs hb
  clear hz hs hb
  generalize (fun t => Z (J t)) = O at *
  go_enter Try.func10, Try.ntmps10
  go_wp2_with fail
  refine hc.mono ?_
  rintro e w1 ⟨h1, ⟨rfl, h2⟩ | ⟨b, f, rfl, h2, h3, h4⟩⟩
  · have H1 : Hid (WritersSaid O m w (.returned (.map none)) w1) := ⟨h1, Or.inl ⟨rfl, h2⟩⟩
    clear h1 h2
    go_wp2_with fail
    go_ret
    exact H1
  · have H1 : Hid (WritersSaid O m w (.returned (.map (some b))) w1) := ⟨h1, Or.inr ⟨b, f, rfl, h2, h3, h4⟩⟩
    clear h1 h2 h3 h4
    go_wp2_with fail
    go_ret
    exact H1
end Go.Proofs.Qxb6602630a
