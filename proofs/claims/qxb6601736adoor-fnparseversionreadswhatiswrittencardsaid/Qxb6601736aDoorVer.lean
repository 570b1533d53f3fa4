/-
  THE WALKS of parseVersion: at stage GA, at beta.
-/
import Derived.Test.Qxb6601736aDoorParse
import Derived.LoopN
namespace Go.Proofs.Qxb6601736aDoor
open Go.RowKit

theorem cutPrefix_v (l : List UInt8) (w : World) :
    Calls Tryd.prog 12 #[.string (str (118 :: l)), .string ⟨#[118]⟩] w fun e w' => e = .returned (.tuple #[.string (str l), .bool true]) ∧ w' = w := by
  have h := Tryd.strings_CutPrefix (str (118 :: l)) ⟨#[118]⟩ w
  rw [str_data] at h
  exact h

theorem cut_call (l sep a b : List UInt8) (r : Bool) (h : Lib.cut l sep = (a, b, r)) (hl : l.length < 4294967281) (m : Int) (w : World) (hm : w.cell? ⟨0, 0, none⟩ = some (.int .i64 m)) :
    Calls Tryd.prog 13 #[.string (str l), .string (str sep)] w fun e w' => e = .returned (.tuple #[.string (str a), .string (str b), .bool r]) ∧ ∃ n, w' = w.drewN n := by
  have hc := Tryd.strings_Cut (str l) (str sep) m w (by rw [str_size]; exact hl) hm
  rw [str_data, str_data, h] at hc
  exact hc

theorem cut_beta_call (l a b : List UInt8) (r : Bool) (h : Lib.cut l Plain.beta = (a, b, r)) (hl : l.length < 4294967281) (m : Int) (w : World) (hm : w.cell? ⟨0, 0, none⟩ = some (.int .i64 m)) :
    Calls Tryd.prog 13 #[.string (str l), .string ⟨#[98, 101, 116, 97]⟩] w fun e w' => e = .returned (.tuple #[.string (str a), .string (str b), .bool r]) ∧ ∃ n, w' = w.drewN n :=
  cut_call l Plain.beta a b r h hl m w hm
theorem cut_alpha_call (l a b : List UInt8) (r : Bool) (h : Lib.cut l Plain.alpha = (a, b, r)) (hl : l.length < 4294967281) (m : Int) (w : World) (hm : w.cell? ⟨0, 0, none⟩ = some (.int .i64 m)) :
    Calls Tryd.prog 13 #[.string (str l), .string ⟨#[97, 108, 112, 104, 97]⟩] w fun e w' => e = .returned (.tuple #[.string (str a), .string (str b), .bool r]) ∧ ∃ n, w' = w.drewN n :=
  cut_call l Plain.alpha a b r h hl m w hm

theorem bcell {W w1 : World} (hb : Below W.heap.size W w1) : (∀ b o, b < W.heap.size → w1.cell? ⟨b, o, none⟩ = W.cell? ⟨b, o, none⟩) ∧ (∀ b o, b < W.heap.size → w1.frozen? ⟨b, o, none⟩ = W.frozen? ⟨b, o, none⟩) :=
  ⟨fun b o h => hb.cell (p := ⟨b, o, none⟩) h, fun b o h => hb.frozen (p := ⟨b, o, none⟩) h⟩

set_option maxHeartbeats 400000 in
theorem version_ga (u : Nat) (hu : u < 18446744073709551616) (m : Int) (w : World) (hm : w.cell? ⟨0, 0, none⟩ = some (.int .i64 m)) :
    Calls Tryd.prog 9 #[.string (str (118 :: Lib.decDigits u))] w fun e w' => e = .returned (.tuple #[.agg #[.int .i64 0, .int .u64 u, .int .u64 0], .bool true]) ∧ Below w.heap.size w w' := by
  have h0 : 0 < w.heap.size := Lib.lt_of_cell hm
  have hlen : (Lib.decDigits u).length < 4294967281 := by
    rw [Lib.decDigits_length]
    have := Plain.nDigits_le u hu
    omega
  have c1 := fun W h => cut_beta_call _ _ _ _ (Plain.cut_plain_beta u) hlen m W h
  have c2 := fun W h => cut_alpha_call _ _ _ _ (Plain.cut_plain_alpha u) hlen m W h
  have hn := fun W => parseNumber_ok u hu W
  have hv := fun W => cutPrefix_v (Lib.decDigits u) W
  generalize str (Lib.decDigits u) = s at *
  generalize str (118 :: Lib.decDigits u) = s0 at *
  go_enter Tryd.func9, Tryd.ntmps9
  go_wp2_with (go_at_call 12; refine (hv _).mono ?_; rintro e w1 ⟨rfl, rfl⟩)
  refine wp_loop_rounds 3 ?_
  rw [rounds_succ]
  go_wp2_with fail
  refine (c1 _ (by simp [World.cell?_alloc_past, h0, hm])).mono ?_
  rintro e w1 ⟨rfl, n1, rfl⟩
  go_wp2_with fail
  rw [rounds_succ]
  go_wp2_with fail
  refine (c2 _ (by simp [World.cell?_alloc_past, h0, hm])).mono ?_
  rintro e w1 ⟨rfl, n2, rfl⟩
  go_wp2_with fail
  rw [rounds_succ]
  go_wp2_with fail
  refine (hn _).mono ?_
  rintro e w1 ⟨rfl, hb⟩
  obtain ⟨hc, hf⟩ := bcell hb
  have hz : w.heap.size + 1 + 1 < w1.heap.size := by have := hb.size; simp at this; omega
  have hb' : Below w.heap.size w w1 :=
    (below_drewN ((below_drewN (((((Below.refl _ _).alloc (Nat.le_refl _) _).alloc (by simp) _).alloc (by simp; omega) _).alloc (by simp; omega) _) _).alloc (by simp; omega) _) _).trans (hb.mono (by simp; omega))
  have q0 : w1.cell? ⟨w.heap.size, 0, none⟩ = some (.int .i64 0) := by rw [hc _ _ (by simp; omega)]; simp [go_sem]
  have q1 : w1.cell? ⟨w.heap.size, 1, none⟩ = some (.int .u64 0) := by rw [hc _ _ (by simp; omega)]; simp [go_sem]
  have q2 : w1.cell? ⟨w.heap.size, 2, none⟩ = some (.int .u64 0) := by rw [hc _ _ (by simp; omega)]; simp [go_sem]
  go_wp2
  refine bodyPost_ret (v := .tuple #[.agg #[.int .i64 0, .int .u64 u, .int .u64 0], .bool true]) (by simp [results, Tryd.results9, go_sem, q0, q1, q2]) rfl ⟨rfl, ?_⟩
  exact (((hb'.setCell (by simp) _).setCell (by simp) _).setCell (by simp) _).setCell (by simp) _

set_option maxHeartbeats 400000 in
theorem version_beta (u v : Nat) (hu : u < 18446744073709551616) (hv0 : v < 18446744073709551616) (m : Int) (w : World) (hm : w.cell? ⟨0, 0, none⟩ = some (.int .i64 m)) :
    Calls Tryd.prog 9 #[.string (str (118 :: (Lib.decDigits u ++ Plain.beta ++ Lib.decDigits v)))] w fun e w' => e = .returned (.tuple #[.agg #[.int .i64 1, .int .u64 u, .int .u64 v], .bool true]) ∧ Below w.heap.size w w' := by
  have h0 : 0 < w.heap.size := Lib.lt_of_cell hm
  have hlen : (Lib.decDigits u ++ Plain.beta ++ Lib.decDigits v).length < 4294967281 := by
    rw [List.length_append, List.length_append, Lib.decDigits_length, Lib.decDigits_length]
    have := Plain.nDigits_le u hu
    have := Plain.nDigits_le v hv0
    have : Plain.beta.length = 4 := rfl
    omega
  have c1 := fun W h => cut_beta_call _ _ _ _ (Plain.cut_beta u v) hlen m W h
  have hn := fun W => parseNumber_ok u hu W
  have hn2 := fun W => parseNumber_ok v hv0 W
  have hv := fun W => cutPrefix_v (Lib.decDigits u ++ Plain.beta ++ Lib.decDigits v) W
  clear hlen
  generalize str (Lib.decDigits u) = s1 at *
  generalize str (Lib.decDigits v) = s2 at *
  generalize str (118 :: (Lib.decDigits u ++ Plain.beta ++ Lib.decDigits v)) = s0 at *
  generalize str (Lib.decDigits u ++ Plain.beta ++ Lib.decDigits v) = s at *
  go_enter Tryd.func9, Tryd.ntmps9
  go_wp2_with (go_at_call 12; refine (hv _).mono ?_; rintro e w1 ⟨rfl, rfl⟩)
  refine wp_loop_rounds 3 ?_
  rw [rounds_succ]
  go_wp2_with fail
  refine (c1 _ (by simp [World.cell?_alloc_past, h0, hm])).mono ?_
  rintro e w1 ⟨rfl, n1, rfl⟩
  go_wp2_with fail
  refine (hn2 _).mono ?_
  rintro e w1 ⟨rfl, hb⟩
  obtain ⟨hc, hf⟩ := bcell hb
  have hz : w.heap.size + 1 + 1 + 1 < w1.heap.size := by have := hb.size; simp at this; omega
  have hb' : Below w.heap.size w w1 :=
    (below_drewN (((((Below.refl _ _).alloc (Nat.le_refl _) _).alloc (by simp) _).alloc (by simp; omega) _).alloc (by simp; omega) _) _).trans (hb.mono (by simp; omega))
  have q0 : w1.cell? ⟨w.heap.size, 0, none⟩ = some (.int .i64 0) := by rw [hc _ _ (by simp; omega)]; simp [go_sem]
  have q1 : w1.cell? ⟨w.heap.size, 1, none⟩ = some (.int .u64 0) := by rw [hc _ _ (by simp; omega)]; simp [go_sem]
  have q2 : w1.cell? ⟨w.heap.size, 2, none⟩ = some (.int .u64 0) := by rw [hc _ _ (by simp; omega)]; simp [go_sem]
  have k0 : w1.cell? ⟨w.heap.size + 1, 0, none⟩ = some (.int .i64 0) := by rw [hc _ _ (by simp)]; simp [go_sem]
  have k1 : w1.cell? ⟨w.heap.size + 1, 1, none⟩ = some (.int .u64 0) := by rw [hc _ _ (by simp)]; simp [go_sem]
  have k2 : w1.cell? ⟨w.heap.size + 1, 2, none⟩ = some (.int .u64 0) := by rw [hc _ _ (by simp)]; simp [go_sem]
  have f0 : ∀ o, w1.frozen? ⟨w.heap.size, o, none⟩ = false := fun o => by rw [hf _ _ (by simp; omega)]; simp [go_sem]
  have f1 : ∀ o, w1.frozen? ⟨w.heap.size + 1, o, none⟩ = false := fun o => by rw [hf _ _ (by simp)]; simp [go_sem]
  go_wp2_with fail
  go_region
  go_wp2_with fail
  refine (hn _).mono ?_
  rintro e w2 ⟨rfl, hb2⟩
  obtain ⟨hc2, hf2⟩ := bcell hb2
  have hz2 : w.heap.size + 1 + 1 < w2.heap.size := by have := hb2.size; simp at this; omega
  have hb2' : Below w.heap.size w w2 :=
    (((hb'.setCell (by simp) _).setCell (by simp) _).drew).trans (hb2.mono (by simp; omega))
  have p0 : w2.cell? ⟨w.heap.size, 0, none⟩ = some (.int .i64 0) := by rw [hc2 _ _ (by simp; omega)]; simp [go_sem, q0]
  have p1 : w2.cell? ⟨w.heap.size, 1, none⟩ = some (.int .u64 0) := by rw [hc2 _ _ (by simp; omega)]; simp [go_sem, q1]
  have p2 : w2.cell? ⟨w.heap.size, 2, none⟩ = some (.int .u64 0) := by rw [hc2 _ _ (by simp; omega)]; simp [go_sem, q2]
  have r0 : w2.cell? ⟨w.heap.size + 1, 0, none⟩ = some (.int .i64 1) := by rw [hc2 _ _ (by simp; omega)]; simp [go_sem, k0]
  have r1 : w2.cell? ⟨w.heap.size + 1, 1, none⟩ = some (.int .u64 0) := by rw [hc2 _ _ (by simp; omega)]; simp [go_sem, k1]
  have r2 : w2.cell? ⟨w.heap.size + 1, 2, none⟩ = some (.int .u64 v) := by rw [hc2 _ _ (by simp; omega)]; simp [go_sem, k2]
  have g0 : ∀ o, w2.frozen? ⟨w.heap.size, o, none⟩ = false := fun o => by rw [hf2 _ _ (by simp; omega)]; simp [go_sem, f0]
  have g1 : ∀ o, w2.frozen? ⟨w.heap.size + 1, o, none⟩ = false := fun o => by rw [hf2 _ _ (by simp; omega)]; simp [go_sem, f1]
  clear hc2 hf2 hc hf q0 q1 q2 k0 k1 k2 f0 f1
  go_wp2
  refine bodyPost_ret (v := .tuple #[.agg #[.int .i64 1, .int .u64 u, .int .u64 v], .bool true]) (by simp [results, Tryd.results9, go_sem, p0, p1, p2]) rfl ⟨rfl, ?_⟩
  exact (((hb2'.setCell (by simp) _).setCell (by simp) _).setCell (by simp) _).setCell (by simp) _
end Go.Proofs.Qxb6601736aDoor
