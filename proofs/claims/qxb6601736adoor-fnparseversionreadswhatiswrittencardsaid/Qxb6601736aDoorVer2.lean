/-
  THE WALKS of parseVersion at alpha, of ZZParseVersion at all three stages.
-/
import Derived.Test.Qxb6601736aDoorVer
namespace Go.Proofs.Qxb6601736aDoor
open Go.RowKit

set_option maxHeartbeats 400000 in
theorem version_alpha (u v : Nat) (hu : u < 18446744073709551616) (hv0 : v < 18446744073709551616) (m : Int) (w : World) (hm : w.cell? ⟨0, 0, none⟩ = some (.int .i64 m)) :
    Calls Tryd.prog 9 #[.string (str (118 :: (Lib.decDigits u ++ Plain.alpha ++ Lib.decDigits v)))] w fun e w' => e = .returned (.tuple #[.agg #[.int .i64 2, .int .u64 u, .int .u64 v], .bool true]) ∧ Below w.heap.size w w' := by
  have h0 : 0 < w.heap.size := Lib.lt_of_cell hm
  have hlen : (Lib.decDigits u ++ Plain.alpha ++ Lib.decDigits v).length < 4294967281 := by
    rw [List.length_append, List.length_append, Lib.decDigits_length, Lib.decDigits_length]
    have := Plain.nDigits_le u hu
    have := Plain.nDigits_le v hv0
    have : Plain.alpha.length = 5 := rfl
    omega
  have c1 := fun W h => cut_beta_call _ _ _ _ (Plain.cut_alpha_beta u v) hlen m W h
  have c2 := fun W h => cut_alpha_call _ _ _ _ (Plain.cut_alpha u v) hlen m W h
  have hn := fun W => parseNumber_ok u hu W
  have hn2 := fun W => parseNumber_ok v hv0 W
  have hv := fun W => cutPrefix_v (Lib.decDigits u ++ Plain.alpha ++ Lib.decDigits v) W
  clear hlen
  generalize str (Lib.decDigits u) = s1 at *
  generalize str (Lib.decDigits v) = s2 at *
  generalize str (118 :: (Lib.decDigits u ++ Plain.alpha ++ Lib.decDigits v)) = s0 at *
  generalize str (Lib.decDigits u ++ Plain.alpha ++ Lib.decDigits v) = s at *
  go_enter Tryd.func9, Tryd.ntmps9
  go_wp2_with (go_at_call 12; refine (hv _).mono ?_; rintro e w1 ⟨rfl, rfl⟩)
  refine wp_loop_rounds 3 ?_
  rw [rounds_succ]
  go_wp2_with fail
  refine (c1 _ (by simp [World.cell?_alloc_past, h0, hm])).mono ?_
  rintro e w1 ⟨rfl, n1, rfl⟩
  go_wp2_with fail
  rw [rounds_succ]
  go_wp2_with fail
  refine (c2 _ (by simp [World.cell?_alloc_past, h0, hm])).mono ?_
  rintro e w1 ⟨rfl, n2, rfl⟩
  go_wp2_with fail
  refine (hn2 _).mono ?_
  rintro e w1 ⟨rfl, hb⟩
  obtain ⟨hc, hf⟩ := bcell hb
  have hz : w.heap.size + 1 + 1 + 1 + 1 < w1.heap.size := by have := hb.size; simp at this; omega
  have hb' : Below w.heap.size w w1 :=
    (below_drewN ((below_drewN (((((Below.refl _ _).alloc (Nat.le_refl _) _).alloc (by simp) _).alloc (by simp; omega) _).alloc (by simp; omega) _) _).alloc (by simp; omega) _) _).trans (hb.mono (by simp; omega))
  have q0 : w1.cell? ⟨w.heap.size, 0, none⟩ = some (.int .i64 0) := by rw [hc _ _ (by simp; omega)]; simp [go_sem]
  have q1 : w1.cell? ⟨w.heap.size, 1, none⟩ = some (.int .u64 0) := by rw [hc _ _ (by simp; omega)]; simp [go_sem]
  have q2 : w1.cell? ⟨w.heap.size, 2, none⟩ = some (.int .u64 0) := by rw [hc _ _ (by simp; omega)]; simp [go_sem]
  have k0 : w1.cell? ⟨w.heap.size + 1, 0, none⟩ = some (.int .i64 0) := by rw [hc _ _ (by simp)]; simp [go_sem]
  have k1 : w1.cell? ⟨w.heap.size + 1, 1, none⟩ = some (.int .u64 0) := by rw [hc _ _ (by simp)]; simp [go_sem]
  have k2 : w1.cell? ⟨w.heap.size + 1, 2, none⟩ = some (.int .u64 0) := by rw [hc _ _ (by simp)]; simp [go_sem]
  have f0 : ∀ o, w1.frozen? ⟨w.heap.size, o, none⟩ = false := fun o => by rw [hf _ _ (by simp; omega)]; simp [go_sem]
  have f1 : ∀ o, w1.frozen? ⟨w.heap.size + 1, o, none⟩ = false := fun o => by rw [hf _ _ (by simp)]; simp [go_sem]
  go_wp2_with fail
  go_region
  go_wp2_with fail
  refine (hn _).mono ?_
  rintro e w2 ⟨rfl, hb2⟩
  obtain ⟨hc2, hf2⟩ := bcell hb2
  have hz2 : w.heap.size + 1 + 1 < w2.heap.size := by have := hb2.size; simp at this; omega
  have hb2' : Below w.heap.size w w2 :=
    (((hb'.setCell (by simp) _).setCell (by simp) _).drew).trans (hb2.mono (by simp; omega))
  have p0 : w2.cell? ⟨w.heap.size, 0, none⟩ = some (.int .i64 0) := by rw [hc2 _ _ (by simp; omega)]; simp [go_sem, q0]
  have p1 : w2.cell? ⟨w.heap.size, 1, none⟩ = some (.int .u64 0) := by rw [hc2 _ _ (by simp; omega)]; simp [go_sem, q1]
  have p2 : w2.cell? ⟨w.heap.size, 2, none⟩ = some (.int .u64 0) := by rw [hc2 _ _ (by simp; omega)]; simp [go_sem, q2]
  have r0 : w2.cell? ⟨w.heap.size + 1, 0, none⟩ = some (.int .i64 2) := by rw [hc2 _ _ (by simp; omega)]; simp [go_sem, k0]
  have r1 : w2.cell? ⟨w.heap.size + 1, 1, none⟩ = some (.int .u64 0) := by rw [hc2 _ _ (by simp; omega)]; simp [go_sem, k1]
  have r2 : w2.cell? ⟨w.heap.size + 1, 2, none⟩ = some (.int .u64 v) := by rw [hc2 _ _ (by simp; omega)]; simp [go_sem, k2]
  have g0 : ∀ o, w2.frozen? ⟨w.heap.size, o, none⟩ = false := fun o => by rw [hf2 _ _ (by simp; omega)]; simp [go_sem, f0]
  have g1 : ∀ o, w2.frozen? ⟨w.heap.size + 1, o, none⟩ = false := fun o => by rw [hf2 _ _ (by simp; omega)]; simp [go_sem, f1]
  clear hc2 hf2 hc hf q0 q1 q2 k0 k1 k2 f0 f1
  go_wp2
  refine bodyPost_ret (v := .tuple #[.agg #[.int .i64 2, .int .u64 u, .int .u64 v], .bool true]) (by simp [results, Tryd.results9, go_sem, p0, p1, p2]) rfl ⟨rfl, ?_⟩
  exact (((hb2'.setCell (by simp) _).setCell (by simp) _).setCell (by simp) _).setCell (by simp) _

/-- what the version text of a stage is -/
def text (st : Int) (u v : Nat) : List UInt8 := 118 :: (if st = 1 then Lib.decDigits u ++ Plain.beta ++ Lib.decDigits v else if st = 2 then Lib.decDigits u ++ Plain.alpha ++ Lib.decDigits v else Lib.decDigits u)
def minor (st : Int) (v : Nat) : Nat := if st = 0 then 0 else v

theorem version_any (st : Int) (hst : st = 0 ∨ st = 1 ∨ st = 2) (u v : Nat) (hu : u < 18446744073709551616) (hv : v < 18446744073709551616) (m : Int) (w : World) (hm : w.cell? ⟨0, 0, none⟩ = some (.int .i64 m)) :
    Calls Tryd.prog 9 #[.string (str (text st u v))] w fun e w' => e = .returned (.tuple #[.agg #[.int .i64 st, .int .u64 u, .int .u64 (minor st v)], .bool true]) ∧ Below w.heap.size w w' := by
  rcases hst with rfl | rfl | rfl
  · exact version_ga u hu m w hm
  · exact version_beta u v hu hv m w hm
  · exact version_alpha u v hu hv m w hm

set_option maxHeartbeats 400000 in
theorem zz_any (st : Int) (hst : st = 0 ∨ st = 1 ∨ st = 2) (u v : Nat) (hu : u < 18446744073709551616) (hv : v < 18446744073709551616) (m : Int) (w : World) (hm : w.cell? ⟨0, 0, none⟩ = some (.int .i64 m)) :
    Calls Tryd.prog 6 #[.string (str (text st u v))] w fun e w' => e = .returned (.tuple #[.int .i64 st, .int .u64 u, .int .u64 (minor st v), .bool true]) ∧ Below w.heap.size w w' := by
  have hc := version_any st hst u v hu hv m w hm
  generalize str (text st u v) = s at *
  generalize minor st v = mi at *
  clear hst
  go_enter Tryd.func6, Tryd.ntmps6
  go_wp2_with fail
  refine hc.mono ?_
  rintro e w1 ⟨rfl, hb⟩
  go_wp2
  go_quiet (fail)
  go_wp2
  refine bodyPost_ret (v := .tuple #[.int .i64 st, .int .u64 u, .int .u64 mi, .bool true]) (by simp [results, Tryd.results6, go_sem]) rfl ⟨rfl, ?_⟩
  exact below_drewN (hb.alloc hb.size _) _
end Go.Proofs.Qxb6601736aDoor
