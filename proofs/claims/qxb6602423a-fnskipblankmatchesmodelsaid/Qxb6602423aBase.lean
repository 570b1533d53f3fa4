/-
  WHAT THE WALKS OF THIS SEAT SHARE: two bytes at a place, by strings.HasPrefix; the line feed, by strings.IndexByte; a world in which the scanner's place has moved.
-/
import Derived.Test.Qxb6602423aRows
import Derived.Test.Qxb6602423aShelf
import Derived.Test.Qxb6602423aPlain
import Derived.WalkKit
import Derived.WalkSpells
import Derived.WalkLawsBesides
import Derived.Handy
import Derived.PlainAid
import Derived.Lib.IndexBytes
import Derived.Deep.QuietTactic
import Derived.BigQuiet
namespace Go.Proofs.Qxb6602423a
open Go.RowKit Go.PlainAid

theorem bt_list (s : ByteArray) (k : Nat) : bt s k = ((s.data.toList[k]?).getD 0).toNat := by
  unfold bt
  by_cases h : k < s.size
  · rw [dif_pos h, List.getElem?_eq_getElem (by simpa using h)]
    rfl
  · rw [dif_neg h, List.getElem?_eq_none (by simpa using h)]
    rfl

theorem prefix_two (s : ByteArray) (a b : UInt8) (p : Nat) :
    Lib.hasPrefix (s.extract p s.size).data.toList [a, b] = Plain.two s.size (bt s) a.toNat b.toNat p := by
  rw [Lib.extract_to_end]
  unfold Lib.hasPrefix Plain.two
  rw [bt_list, bt_list]
  have hsz : s.data.toList.length = s.size := by simp
  rw [Bool.eq_iff_iff, decide_eq_true_iff, ← hsz]
  generalize s.data.toList = l
  by_cases h : p + 1 < l.length
  · rw [List.drop_eq_getElem_cons (by omega), List.drop_eq_getElem_cons h, List.getElem?_eq_getElem h, List.getElem?_eq_getElem (show p < l.length by omega)]
    simp only [List.isPrefixOf, Bool.and_eq_true, beq_iff_eq, Option.getD_some, and_true]
    constructor
    · rintro ⟨rfl, rfl⟩
      exact ⟨h, rfl, rfl⟩
    · rintro ⟨_, h1, h2⟩
      exact ⟨UInt8.toNat_inj.1 (by omega), UInt8.toNat_inj.1 (by omega)⟩
  · constructor
    · intro hp
      have := (List.isPrefixOf_iff_prefix.1 hp).length_le
      simp at this
      omega
    · intro hp
      omega

theorem hasPrefix_at (s : ByteArray) (a b : UInt8) (p : Nat) (w : World) :
    Calls Try.prog 19 #[.string (s.extract p s.size), .string ⟨#[a, b]⟩] w fun e w' => e = .returned (.bool (Plain.two s.size (bt s) a.toNat b.toNat p)) ∧ w' = w := by
  have h := Try.strings_HasPrefix (s.extract p s.size) ⟨#[a, b]⟩ w
  rw [show (⟨#[a, b]⟩ : ByteArray).data.toList = [a, b] from rfl, prefix_two] at h
  exact h
theorem dash_at (s : ByteArray) (p : Nat) (w : World) :
    Calls Try.prog 19 #[.string (s.extract p s.size), .string ⟨#[45, 45]⟩] w fun e w' => e = .returned (.bool (Plain.two s.size (bt s) 45 45 p)) ∧ w' = w := hasPrefix_at s 45 45 p w
theorem open_at (s : ByteArray) (p : Nat) (w : World) :
    Calls Try.prog 19 #[.string (s.extract p s.size), .string ⟨#[47, 42]⟩] w fun e w' => e = .returned (.bool (Plain.two s.size (bt s) 47 42 p)) ∧ w' = w := hasPrefix_at s 47 42 p w
theorem close_at (s : ByteArray) (p : Nat) (w : World) :
    Calls Try.prog 19 #[.string (s.extract p s.size), .string ⟨#[42, 47]⟩] w fun e w' => e = .returned (.bool (Plain.two s.size (bt s) 42 47 p)) ∧ w' = w := hasPrefix_at s 42 47 p w

/-- The world W, with the int at cell 1 of block b now q; all else as it was. -/
structure Moved (W : World) (b : Nat) (q : Int) (w' : World) : Prop where
  below : Below b W w'
  size : w'.heap.size = W.heap.size
  cell : ∀ a : Addr, a ≠ ⟨b, 1, none⟩ → w'.cell? a = W.cell? a
  here : w'.cell? ⟨b, 1, none⟩ = some (.int .i64 q)
  frozen : ∀ a : Addr, w'.frozen? a = W.frozen? a

theorem Moved.start {W : World} {b : Nat} {q : Int} (h : W.cell? ⟨b, 1, none⟩ = some (.int .i64 q)) : Moved W b q W :=
  ⟨Below.refl _ _, rfl, fun _ _ => rfl, h, fun _ => rfl⟩
theorem Moved.drew {W w' : World} {b : Nat} {q : Int} (h : Moved W b q w') : Moved W b q w'.drew :=
  ⟨h.below.drew, h.size, h.cell, h.here, h.frozen⟩
theorem Moved.drewN {W w' : World} {b : Nat} {q : Int} (h : Moved W b q w') (n : Nat) : Moved W b q (w'.drewN n) :=
  ⟨below_drewN h.below n, h.size, h.cell, h.here, h.frozen⟩
theorem Moved.set {W w' : World} {b : Nat} {q : Int} (h : Moved W b q w') (q' : Int) : Moved W b q' (w'.setCell ⟨b, 1, none⟩ (.int .i64 q')) :=
  ⟨h.below.setCell (Nat.le_refl _) _, by rw [World.size_setCell]; exact h.size, fun a ha => by rw [World.cell?_setCell_other _ _ _ _ (fun e => ha e.symm)]; exact h.cell a ha,
    World.cell?_setCell_same _ _ _ h.here, fun a => by rw [World.frozen?_setCell]; exact h.frozen a⟩
theorem Moved.to {W w' : World} {b : Nat} {q : Int} (h : Moved W b q w') (n : Nat) (x : Int) (e : (n : Int) = x) : Moved W b (n : Int) (w'.setCell ⟨b, 1, none⟩ (.int .i64 x)) := by
  subst e
  exact h.set _
theorem Moved.undrew {W w' : World} {b n : Nat} {q : Int} (h : Moved (W.drewN n) b q w') : Moved W b q w' :=
  ⟨⟨h.below.os, h.below.tape, h.below.output, h.below.size, h.below.block⟩, h.size, h.cell, h.here, h.frozen⟩

/-- The line feed behind a line comment's dashes. -/
theorem line_cases (s : ByteArray) (p : Nat) (h : Plain.two s.size (bt s) 45 45 p = true) :
    (Lib.indexByte (s.extract p s.size).data.toList ((10 : Int).toNat.toUInt8) = -1 ∧ Plain.lnNext s.size (bt s) (p + 2) = s.size) ∨
    (∃ j : Nat, Lib.indexByte (s.extract p s.size).data.toList ((10 : Int).toNat.toUInt8) = j ∧ p + j < s.size ∧ Plain.lnNext s.size (bt s) (p + 2) = p + j + 1) := by
  have h2 := Plain.two_lt h
  unfold Plain.two at h
  obtain ⟨_, g0, g1⟩ := of_decide_eq_true h
  rw [Lib.extract_to_end]
  have hc : ((10 : Int).toNat.toUInt8) = (10 : UInt8) := rfl
  rw [hc]
  have hbt : ∀ k, (s.data.toList.drop p)[k]? = some 10 ↔ (p + k < s.size ∧ bt s (p + k) = 10) := by
    intro k
    rw [List.getElem?_drop, bt_list]
    by_cases hk : p + k < s.size
    · rw [List.getElem?_eq_getElem (by simpa using hk)]
      simp only [Option.some.injEq, Option.getD_some]
      constructor
      · intro e
        rw [e]
        exact ⟨hk, rfl⟩
      · rintro ⟨_, e⟩
        exact UInt8.toNat_inj.1 (by have : (10 : UInt8).toNat = 10 := rfl; omega)
    · rw [List.getElem?_eq_none (by simpa using hk)]
      constructor
      · intro e; cases e
      · rintro ⟨e, _⟩; omega
  by_cases hn : Lib.indexByte (s.data.toList.drop p) 10 = -1
  · left
    refine ⟨hn, ?_⟩
    have hnone := Lib.indexByte_none hn
    have e : Plain.lnEnd s.size (bt s) (p + 2) = s.size := by
      refine Plain.lnEnd_at (by omega) ?_ (by unfold Plain.pLn; rw [decide_eq_false (by omega), Bool.false_and])
      intro k hk1 hk2
      unfold Plain.pLn
      rw [decide_eq_true hk2, Bool.true_and]
      refine decide_eq_true (fun e => hnone (k - p) ((hbt (k - p)).2 ?_))
      rw [show p + (k - p) = k by omega]
      exact ⟨hk2, e⟩
    unfold Plain.lnNext
    rw [if_pos e]
  · right
    have hge := Lib.indexByte_ge (s.data.toList.drop p) 10
    obtain ⟨j, hj⟩ := Int.eq_ofNat_of_zero_le (show 0 ≤ Lib.indexByte (s.data.toList.drop p) 10 by omega)
    obtain ⟨hat, hbefore⟩ := Lib.indexByte_some hj
    obtain ⟨hlt, he⟩ := (hbt j).1 hat
    have hj2 : 2 ≤ j := by
      rcases Nat.lt_or_ge j 2 with hlt2 | hge2
      · have : j = 0 ∨ j = 1 := by omega
        rcases this with rfl | rfl
        · rw [Nat.add_zero, g0] at he; omega
        · rw [g1] at he; omega
      · exact hge2
    refine ⟨j, hj, hlt, ?_⟩
    have e : Plain.lnEnd s.size (bt s) (p + 2) = p + j := by
      refine Plain.lnEnd_at (by omega) ?_ (by unfold Plain.pLn; rw [decide_eq_true hlt, Bool.true_and]; exact decide_eq_false (by simpa using he))
      intro k hk1 hk2
      unfold Plain.pLn
      rw [decide_eq_true (by omega), Bool.true_and]
      refine decide_eq_true (fun e => hbefore (k - p) (by omega) ((hbt (k - p)).2 ?_))
      rw [show p + (k - p) = k by omega]
      exact ⟨by omega, e⟩
    unfold Plain.lnNext
    rw [e, if_neg (by omega)]
end Go.Proofs.Qxb6602423a
