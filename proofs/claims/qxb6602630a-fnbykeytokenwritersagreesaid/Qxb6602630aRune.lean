/-
  strings.IndexRune, IndexAny, ContainsAny at the two bytes '[' and ']': whatever the text.
-/
import Derived.Test.Qxb6602630aRows
import Derived.Test.Qxb6602630aShelf
import Derived.WalkKit
import Derived.WalkSpells
import Derived.WalkLawsBesides
import Derived.Handy
import Derived.PlainAid
import Derived.Deep.QuietTactic
import Derived.BigQuiet
import Derived.Lib.OthersKept
import Derived.Lib.AtoiErrMem
import Derived.Deep.LoopGhost
namespace Go.Proofs.Qxb6602630a
open Go.RowKit Go.PlainAid

def br : ByteArray := ⟨#[91, 93]⟩

set_option maxRecDepth 100000 in
set_option maxHeartbeats 1000000 in
theorem rune_bad (r : Int) (h0 : 128 ≤ r) (h1 : (r == 65533) = false) (h2 : Lib.validRune r = false) (w : World) :
    Calls Try.prog 29 #[.string ⟨#[91, 93]⟩, .int .i32 r] w fun e w' => e = .returned (.int .i64 (-1)) ∧ Below w.heap.size w w' := by
  go_enter Try.func29, Try.ntmps29
  go_wp2_with fail
  refine (Try.utf8_ValidRune _ _).mono ?_
  rintro e w1 ⟨rfl, rfl⟩
  rw [h2]
  go_wp2_with fail
  go_ret
  exact ⟨rfl, Below.refl _ _⟩

set_option maxRecDepth 100000 in
set_option maxHeartbeats 1000000 in
theorem rune_err (w : World) :
    Calls Try.prog 29 #[.string ⟨#[91, 93]⟩, .int .i32 65533] w fun e w' => e = .returned (.int .i64 (-1)) ∧ Below w.heap.size w w' := by
  have n0 : ∀ ty, (Instr.next (.pointer (some ⟨w.heap.size, 0, none⟩)) true ty).run Try.prog (w.iter ⟨#[91, 93]⟩ 0) = .ok (.tuple #[.bool true, .int .i64 0, .int .i32 91]) (w.iter ⟨#[91, 93]⟩ 1) := fun ty => run_next_ascii (P := Try.prog) w ⟨#[91, 93]⟩ 0 ty (by decide) (by decide)
  have n1 : ∀ ty, (Instr.next (.pointer (some ⟨w.heap.size, 0, none⟩)) true ty).run Try.prog (w.iter ⟨#[91, 93]⟩ 1) = .ok (.tuple #[.bool true, .int .i64 1, .int .i32 93]) (w.iter ⟨#[91, 93]⟩ 2) := fun ty => run_next_ascii (P := Try.prog) w ⟨#[91, 93]⟩ 1 ty (by decide) (by decide)
  have n2 : ∀ ty, (Instr.next (.pointer (some ⟨w.heap.size, 0, none⟩)) true ty).run Try.prog (w.iter ⟨#[91, 93]⟩ 2) = .ok (.tuple #[.bool false]) (w.iter ⟨#[91, 93]⟩ 2) := fun ty => run_next_end (P := Try.prog) w ⟨#[91, 93]⟩ 2 ty (by decide)
  go_enter Try.func29, Try.ntmps29
  go_wp2_with fail
  refine wp_loop_rounds 3 ?_
  rw [rounds_succ]
  go_wp2_with fail
  rw [rounds_succ]
  go_wp2_with fail
  rw [rounds_succ]
  go_wp2_with fail
  go_ret
  exact ⟨rfl, (Below.refl _ _).alloc (Nat.le_refl _) _⟩

set_option maxRecDepth 100000 in
set_option maxHeartbeats 1000000 in
theorem rune_good (r : Int) (h0 : 128 ≤ r) (h1 : (r == 65533) = false) (h2 : Lib.validRune r = true) (w : World) :
    Calls Try.prog 29 #[.string ⟨#[91, 93]⟩, .int .i32 r] w fun e w' => e = .returned (.int .i64 (-1)) ∧ Below w.heap.size w w' := by
  have hv : Utf8.valid r = true := by
    unfold Lib.validRune at h2
    unfold Utf8.valid
    have := of_decide_eq_true h2
    simp
    omega
  obtain ⟨e1, e2, e3⟩ := encode_facts r hv h0
  have hg := get_bt (Utf8.encode r)
  have e4 : 128 ≤ bt (Utf8.encode r) ((Utf8.encode r).size - 1) := by
    have := e3 (by omega)
    rw [← hg _ (by omega)]
    omega
  clear e3 hv
  have E4 : Hid (128 ≤ bt (Utf8.encode r) ((Utf8.encode r).size - 1)) := e4
  clear e4
  go_enter Try.func29, Try.ntmps29
  go_wp2_with fail
  refine (Try.utf8_ValidRune _ _).mono ?_
  rintro e w1 ⟨rfl, rfl⟩
  rw [h2]
  go_wp2_with fail
  go_step3
  go_wp2_with fail
  generalize Utf8.encode r = s at *
  refine wp_loop_rounds 1 ?_
  rw [rounds_succ]
  by_cases hs : s.size = 2
  · have e4 : 128 ≤ bt s 1 := by have := E4.out; rw [hs] at this; exact this
    have hne : ((((⟨#[91, 93]⟩ : ByteArray)[1]'(by decide)).toNat : Int) != bt s 1) = true := by
      rw [show (((⟨#[91, 93]⟩ : ByteArray)[1]'(by decide)).toNat : Int) = 93 from rfl]
      exact bne_iff_ne.2 (by omega)
    have hb1 := bt_le s 1
    have hib := fun W => Try.strings_IndexByte ByteArray.empty (bt s 1) W
    rw [show Lib.indexByte ByteArray.empty.data.toList (bt s 1).toNat.toUInt8 = -1 from rfl] at hib
    rw [hs]
    go_wp2_with fail
    go_step3
    go_wp2_with fail
    go_quiet (fail)
    go_wp2_with fail
    have hw2 : IntKind.i64.wrap 2 = 2 := by decide
    go_quiet ((go_at_call 33; exact (hib _).mono (fun e w' h => ⟨h.1, _, h.2⟩)))
    go_wp2_with fail
    rw [Exit.noGoto_ret]
    simp only [Exit.inBlock, Exit.then, Exit.noGoto_ret]
    go_ret
    exact ⟨rfl, below_drewN (Below.refl _ _) _⟩
  · go_wp2_with fail
    rw [Exit.noGoto_ret]
    go_ret
    exact ⟨rfl, Below.refl _ _⟩

/-- A rune beyond ASCII is none of the two. -/
theorem rune_high (r : Int) (h0 : 128 ≤ r) (w : World) :
    Calls Try.prog 29 #[.string ⟨#[91, 93]⟩, .int .i32 r] w fun e w' => e = .returned (.int .i64 (-1)) ∧ Below w.heap.size w w' := by
  by_cases h1 : r = 65533
  · subst h1
    exact rune_err w
  · have h1' : (r == 65533) = false := beq_eq_false_iff_ne.2 h1
    cases h2 : Lib.validRune r with
    | true => exact rune_good r h0 h1' h2 w
    | false => exact rune_bad r h0 h1' h2 w

/-- where the rune r stands among '[', ']' -/
def irune (r : Int) : Int := if 128 ≤ r then -1 else Lib.indexByte [91, 93] r.toNat.toUInt8

theorem rune_any (r : Int) (h0 : 0 ≤ r) (w : World) :
    Calls Try.prog 29 #[.string ⟨#[91, 93]⟩, .int .i32 r] w fun e w' => e = .returned (.int .i64 (irune r)) ∧ Below w.heap.size w w' := by
  unfold irune
  by_cases h : 128 ≤ r
  · rw [if_pos h]
    exact rune_high r h w
  · rw [if_neg h]
    refine (Try.strings_IndexRune_ascii ⟨#[91, 93]⟩ r w h0 (by omega)).mono ?_
    rintro e w' ⟨rfl, rfl⟩
    exact ⟨rfl, Below.refl _ _⟩

/-- does one of the runes from place i on stand among the two? (fuel: at least the bytes left) -/
def anyRune (s : ByteArray) : Nat → Nat → Bool
  | 0, _ => false
  | f + 1, i => if i < s.size then (if 0 ≤ irune ((Utf8.decode s i).1 : Int) then true else anyRune s f (i + (Utf8.decode s i).2)) else false

theorem decode_step (s : ByteArray) (i : Nat) (h : i < s.size) : 1 ≤ (Utf8.decode s i).2 := by
  by_cases ha : (s[i]'h).toNat < 128
  · rw [decode_ascii s i h ha]
    exact Nat.le_refl _
  · exact (decode_high s i h (by omega)).2

set_option maxRecDepth 100000 in
set_option maxHeartbeats 1000000 in
theorem indexAny_short (s : ByteArray) (h8 : s.size ≤ 8) (w : World) :
    Calls Try.prog 28 #[.string s, .string ⟨#[91, 93]⟩] w fun e w' => (∃ i, e = .returned (.int .i64 i) ∧ decide (0 ≤ i) = anyRune s 9 0) ∧ Below w.heap.size w w' := by
  have h8z : decide ((8 : Int) < (s.size : Int)) = false := decide_eq_false (by omega)
  go_enter Try.func28, Try.ntmps28
  go_wp2_with fail
  refine (Try.strings_shouldUseASCIISet _ _).mono ?_
  rintro e w1 ⟨rfl, rfl⟩
  rw [h8z]
  go_wp2_with fail
  generalize htg : anyRune s 9 0 = tg
  have Htg : Hid (anyRune s 9 0 = tg) := htg
  clear htg
  go_loopg [9, 10] 9 (fun g _ _ wx => ∃ i : Nat, s.size < i + g ∧ Hid (wx.heap[w1.heap.size]? = some (.stringIter s i)) ∧ Hid (Below w1.heap.size w1 wx) ∧ Hid (anyRune s g i = tg))
  case atStart => exact ⟨0, by omega, World.iter_heap _ _ _, (Below.refl _ _).alloc (Nat.le_refl _) _, Htg⟩
  case round =>
    obtain ⟨i, hig, hk, hb, ht⟩ := hrel
    by_cases hlt : i < s.size
    · cases gk with
      | zero => omega
      | succ g =>
        have hnx := fun ty => Lib.run_next_any_at (P := Try.prog) wr w1.heap.size s i ty hk.out hlt
        have hst := decode_step s i hlt
        have hd0 : (0 : Int) ≤ ((Utf8.decode s i).1 : Int) := by omega
        have ht2 := ht.out
        unfold anyRune at ht2
        rw [if_pos hlt] at ht2
        have hk2 : (wr.iterAt w1.heap.size s (i + (Utf8.decode s i).2)).heap[w1.heap.size]? = some (.stringIter s (i + (Utf8.decode s i).2)) := Lib.iterAt_heap wr _ s i _ hk.out
        have hb2 : Below w1.heap.size w1 (wr.iterAt w1.heap.size s (i + (Utf8.decode s i).2)) := Lib.below_iterAt hb.out (Nat.le_refl _) _ _
        have Hk2 : Hid _ := hk2
        have Hb2 : Hid _ := hb2
        have Ht2 : Hid _ := ht2
        clear hk2 hb2 ht2
        generalize hdc : Utf8.decode s i = dc at *
        obtain ⟨r, d⟩ := dc
        simp only at *
        generalize hW : wr.iterAt w1.heap.size s (i + d) = W at *
        clear hW hdc
        have hlW : w1.heap.size < W.heap.size := (Array.getElem?_eq_some_iff.1 Hk2.out).1
        by_cases hi : 0 ≤ irune (r : Int)
        · have Hfin : Hid (tg = true) := by
            have := Ht2.out
            rw [if_pos hi] at this
            exact this.symm
          have hr := rune_any (r : Int) hd0 W
          generalize irune (r : Int) = q at *
          go_wp2_with fail
          refine hr.mono ?_
          rintro e w2 ⟨rfl, hb3⟩
          go_wp2_with fail
          go_ret
          exact ⟨⟨_, rfl, by rw [Htg.out, Hfin.out]; exact decide_eq_true (by omega)⟩, Hb2.out.trans (hb3.mono (by omega))⟩
        · have Hn : Hid (anyRune s g (i + d) = tg) := by
            have := Ht2.out
            rw [if_neg hi] at this
            exact this
          have hr := rune_any (r : Int) hd0 W
          generalize irune (r : Int) = q at *
          go_wp2_with fail
          refine hr.mono ?_
          rintro e w2 ⟨rfl, hb3⟩
          go_wp2_with fail
          go_roundg g
          case measure => omega
          case rel =>
            refine ⟨i + d, by omega, ?_, Hb2.out.trans (hb3.mono (by omega)), Hn⟩
            show w2.heap[w1.heap.size]? = _
            rw [hb3.block _ hlW]
            exact Hk2.out
    · have hnx := fun ty => Lib.run_next_end_at (P := Try.prog) wr w1.heap.size s i ty hk.out hlt
      have Hfin : Hid (tg = false) := by
        have := ht.out
        cases gk with
        | zero => exact this.symm
        | succ g =>
          unfold anyRune at this
          rw [if_neg hlt] at this
          exact this.symm
      go_wp2_with fail
      go_ret
      exact ⟨⟨_, rfl, by rw [Htg.out, Hfin.out]; rfl⟩, hb⟩

/-- what ContainsAny(s, "[]") answers: a function of s alone -/
def cany (s : ByteArray) : Bool := if s.size ≤ 8 then anyRune s 9 0 else decide (0 ≤ Lib.indexAny s.data.toList [91, 93])

theorem indexAny_any (s : ByteArray) (hs : s.size < 4294967281) (w : World) :
    Calls Try.prog 28 #[.string s, .string ⟨#[91, 93]⟩] w fun e w' => (∃ i, e = .returned (.int .i64 i) ∧ decide (0 ≤ i) = cany s) ∧ Below w.heap.size w w' := by
  unfold cany
  by_cases h : s.size ≤ 8
  · rw [if_pos h]
    exact indexAny_short s h w
  · rw [if_neg h]
    refine (Try.strings_IndexAny_long (fun w => by kernel_rfl) s ⟨#[91, 93]⟩ w (by decide) (by omega) hs (by decide) ?_).mono ?_
    · intro j b hj
      have hb : b ∈ ([91, 93] : List UInt8) := List.mem_of_getElem? hj
      simp only [List.mem_cons, List.not_mem_nil, or_false] at hb
      rcases hb with rfl | rfl <;> decide
    · rintro e w' ⟨rfl, rfl⟩
      exact ⟨⟨_, rfl, rfl⟩, ((Below.refl _ _).alloc (Nat.le_refl _) _).alloc (by simp) _⟩

set_option maxHeartbeats 400000 in
theorem contains_any (s : ByteArray) (hs : s.size < 4294967281) (w : World) :
    Calls Try.prog 27 #[.string s, .string ⟨#[91, 93]⟩] w fun e w' => e = .returned (.bool (cany s)) ∧ Below w.heap.size w w' := by
  have hi := indexAny_any s hs w
  generalize cany s = c at *
  go_enter Try.func27, Try.ntmps27
  go_wp2_with fail
  refine hi.mono ?_
  rintro e w1 ⟨⟨i, rfl, hc⟩, hb⟩
  have Hc : Hid (decide (0 ≤ i) = c) := hc
  clear hc
  go_wp2_with fail
  go_ret
  exact ⟨by rw [← Hc.out]; rfl, hb⟩
end Go.Proofs.Qxb6602630a
