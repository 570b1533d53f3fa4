/-
  THE ROW of FnByKeyTokenWritersAgree.
-/
import Derived.Test.Qxb6602630aRows
import Derived.WalkKit
import Derived.ProofKit
import Derived.OpenShut
import Derived.ShutString
import Derived.ChangeOld
import Derived.Below
import Derived.HandedShaped
import Derived.Deep.Slices
import Derived.Test.Qxb6602630aLaw
namespace Go.Proofs.Qxb6602630a
namespace fnByKeyTokenWritersAgree
open Go.ChangeShapes Go.WideShapes Go.ChangeAt Go.RowKit
open Go.ChangeMaps (open_string shut_string)
set_option linter.unusedVariables false

theorem own : ownKnob Try.prog.godebug = none := by kernel_rfl
theorem laidOut : laidOutB Try.prog = true := by kernel_rfl

theorem cell_at {cs : List Value} {k : Nat} {v : Value} (h : (cs.drop k).take 1 = [v]) : cs[k]? = some v := by
  have h2 : ((cs.drop k).take 1)[0]? = some v := by rw [h]; rfl
  rw [List.getElem?_take, if_pos (by omega), List.getElem?_drop, Nat.add_zero] at h2
  exact h2

theorem Try.cells2 : Try.prog.cellsOf 2 = 1 := by kernel_rfl
theorem Try.cells3 : Try.prog.cellsOf 3 = 1 := by kernel_rfl
theorem Try.cells4 : Try.prog.cellsOf 4 = 1 := by kernel_rfl
theorem Try.cells9 : Try.prog.cellsOf 9 = 1 := by kernel_rfl

/-- an element of []ZOperation, read -/
theorem op_of_cells {H : Type} {enc : TypeId × Value → H} {w : World} {base n : Nat} {sp : Nat → Bool} {held : Bool} {cs : List Value} {x : DataW H × List MemPlace} (h : DataW.trod enc Try.prog w base sp held n 43 cs = some x) : ∃ z : ZOp, cs = z.cells := by
  obtain ⟨xs, m, rfl, _, hl, hx, hf⟩ := DataW.trod_struct Try.underlying43 h
  rw [Try.cells43] at hl
  have hx8 : xs.length = 8 := hx
  have e : ∀ i, i < 8 → ∃ y, xs[i]? = some y := fun i hi => ⟨xs[i]'(by omega), List.getElem?_eq_getElem (by omega)⟩
  obtain ⟨y0, e0⟩ := e 0 (by omega)
  obtain ⟨y1, e1⟩ := e 1 (by omega)
  obtain ⟨y2, e2⟩ := e 2 (by omega)
  obtain ⟨y3, e3⟩ := e 3 (by omega)
  obtain ⟨y4, e4⟩ := e 4 (by omega)
  obtain ⟨y5, e5⟩ := e 5 (by omega)
  obtain ⟨y6, e6⟩ := e 6 (by omega)
  obtain ⟨y7, e7⟩ := e 7 (by omega)
  have f0 : DataW.trod enc Try.prog w base sp held m 3 ((cs.drop 0).take (Try.prog.cellsOf 3)) = xs[0]? := hf 0 _ rfl
  have f1 : DataW.trod enc Try.prog w base sp held m 9 ((cs.drop 1).take (Try.prog.cellsOf 9)) = xs[1]? := hf 1 _ rfl
  have f2 : DataW.trod enc Try.prog w base sp held m 9 ((cs.drop 2).take (Try.prog.cellsOf 9)) = xs[2]? := hf 2 _ rfl
  have f3 : DataW.trod enc Try.prog w base sp held m 9 ((cs.drop 3).take (Try.prog.cellsOf 9)) = xs[3]? := hf 3 _ rfl
  have f4 : DataW.trod enc Try.prog w base sp held m 9 ((cs.drop 4).take (Try.prog.cellsOf 9)) = xs[4]? := hf 4 _ rfl
  have f5 : DataW.trod enc Try.prog w base sp held m 2 ((cs.drop 5).take (Try.prog.cellsOf 2)) = xs[5]? := hf 5 _ rfl
  have f6 : DataW.trod enc Try.prog w base sp held m 2 ((cs.drop 6).take (Try.prog.cellsOf 2)) = xs[6]? := hf 6 _ rfl
  have f7 : DataW.trod enc Try.prog w base sp held m 4 ((cs.drop 7).take (Try.prog.cellsOf 4)) = xs[7]? := hf 7 _ rfl
  rw [e0, Try.cells3] at f0
  rw [e1, Try.cells9] at f1
  rw [e2, Try.cells9] at f2
  rw [e3, Try.cells9] at f3
  rw [e4, Try.cells9] at f4
  rw [e5, Try.cells2] at f5
  rw [e6, Try.cells2] at f6
  rw [e7, Try.cells4] at f7
  obtain ⟨z0, g0, _, _⟩ := DataW.trod_int Try.underlying3 f0
  obtain ⟨z1, g1, _, _⟩ := DataW.trod_string Try.underlying9 f1
  obtain ⟨z2, g2, _, _⟩ := DataW.trod_string Try.underlying9 f2
  obtain ⟨z3, g3, _, _⟩ := DataW.trod_string Try.underlying9 f3
  obtain ⟨z4, g4, _, _⟩ := DataW.trod_string Try.underlying9 f4
  obtain ⟨z5, g5, _, _⟩ := DataW.trod_int Try.underlying2 f5
  obtain ⟨z6, g6, _, _⟩ := DataW.trod_int Try.underlying2 f6
  obtain ⟨z7, g7, _⟩ := DataW.trod_bool Try.underlying4 f7
  refine ⟨⟨z0, z1, z2, z3, z4, z5, z6, z7⟩, ?_⟩
  have q0 := cell_at g0
  have q1 := cell_at g1
  have q2 := cell_at g2
  have q3 := cell_at g3
  have q4 := cell_at g4
  have q5 := cell_at g5
  have q6 := cell_at g6
  have q7 := cell_at g7
  match cs, hl with
  | [a0, a1, a2, a3, a4, a5, a6, a7], _ =>
    simp at q0 q1 q2 q3 q4 q5 q6 q7
    subst q0 q1 q2 q3 q4 q5 q6 q7
    rfl

/-- WHAT THE WALK IS TOLD of a slice of operations that came in. -/
def IsOps (w : World) (a : Option Addr) (len cap : Nat) (Z : Nat → ZOp) : Prop :=
  (a = none ∧ len = 0 ∧ cap = 0) ∨ ∃ x, a = some x ∧ len ≤ cap ∧ cap ≤ maxLen ∧ ∀ i, i < len → OpAt w (x.add (i * 8)) (Z i)

theorem opAt_cells {w : World} {base : Nat} {y : Addr} {z : ZOp} (h : w.cells? base y 8 = some z.cells) : OpAt w y z := by
  obtain ⟨_, _, h3⟩ := World.cells?_some h
  have add : ∀ i, 0 < i → y.add i = ⟨y.block, y.off + i, none⟩ := fun i hi => by
    unfold Addr.add
    rw [if_neg (by omega)]
  have q0 := h3 0 (by omega)
  rw [show y.add 0 = y by simp [Addr.add]] at q0
  refine ⟨q0, ?_, ?_, ?_, ?_, ?_, ?_, ?_⟩
  · rw [← add 1 (by omega)]; exact h3 1 (by omega)
  · rw [← add 2 (by omega)]; exact h3 2 (by omega)
  · rw [← add 3 (by omega)]; exact h3 3 (by omega)
  · rw [← add 4 (by omega)]; exact h3 4 (by omega)
  · rw [← add 5 (by omega)]; exact h3 5 (by omega)
  · rw [← add 6 (by omega)]; exact h3 6 (by omega)
  · rw [← add 7 (by omega)]; exact h3 7 (by omega)

theorem walk (a0 : Option Addr) (len0 cap0 : Nat) (Z : Nat → ZOp) (w : World) (w0 : IsOps w a0 len0 cap0 Z) :
    Calls Try.prog 5 #[.slice a0 len0 cap0] w fun e w' => e = .returned (.bool true) ∧ Below w.heap.size w w' := by
  rcases w0 with ⟨rfl, rfl, rfl⟩ | ⟨x, rfl, h1, h2, h3⟩
  · refine law none 0 0 Z w (bytes_nil Z w) (big_nil w) ?_
    intro w1 _ _
    refine (clone_nil w1).mono ?_
    rintro e w2 ⟨rfl, rfl⟩
    exact ⟨none, 0, rfl, (fun i hi => absurd hi (Nat.not_lt_zero _)), Below.refl _ _⟩
  · refine law (some x) len0 cap0 Z w (bytes_any x len0 cap0 Z w h3) (tooBig x len0 cap0 Z w h3) ?_
    intro w1 hb hl
    refine (clone_some x len0 cap0 hl Z w1 (fun i hi => opAt_below (h3 i hi) (Lib.lt_of_cell (h3 i hi).1) hb)).mono ?_
    rintro e w2 ⟨rfl, g1, g2, g3⟩
    exact ⟨_, _, rfl, (fun i hi => ⟨rfl, g1 i hi⟩), g3⟩

set_option maxRecDepth 100000 in
theorem lifted (os : Os) (started : os.Started) (H : Type) (enc : TypeId × Value → H) :
    ReturnsInHanded {} Try.checked os 5 .any (Rows.fnByKeyTokenWritersAgreeSpec.pre6 enc Try.prog Try.f5 Rows.fnByKeyTokenWritersAgreeRow.domain false) (Rows.fnByKeyTokenWritersAgreeSpec.post enc Try.prog Try.f5 false true false false) := by
  refine returnsInHanded_of_change (C := Try.checked) own started (by kernel_rfl) Try.func5
    (ChangeSpec.witness6 (enc := enc) (C := Try.checked) false ⟨#[], #[.slice none 0 0], []⟩ 8 (by kernel_rfl) (by kernel_rfl) (by kernel_rfl) (by kernel_rfl)) ?_
  intro W base args ds gs before hval0 hW hcnd _
  have hval : ∀ (j : Nat) t v, Try.f5.params[j]? = some t → args[j]? = some v → Value.okWide Try.prog W .any base t v := hval0
  have hW' := hW
  obtain ⟨p, q, hA0, hV, rfl, hfz, hnd⟩ := hW
  have hA : DataW.TrodAll enc Try.prog W 0 (fun _ => true) true Try.f5.params.toList args.toList ds p := hA0
  rw [Try.params5] at hA hval
  obtain ⟨v0, vs0, d0, ds0, p0, q0, hargs, rfl, rfl, h0, r0⟩ := trodAll_cons hA
  obtain ⟨rfl, rfl, rfl⟩ := trodAll_nil r0
  obtain rfl : args = #[v0] := by cases args; simp_all
  obtain ⟨rfl, rfl⟩ := trodVars_none hV
  obtain ⟨a0, len0, cap0, rfl⟩ := okWide_slice Try.underlying36 (hval 0 36 v0 rfl rfl)
  have k0 := h0
  have lt0 : ∀ x ∈ p0, x.block < W.heap.size := by obtain ⟨m, hm⟩ := k0; exact DataW.trod_lt m _ _ _ hm
  obtain ⟨Z, w0⟩ : ∃ Z, IsOps W a0 len0 cap0 Z := by
    obtain ⟨fuel, hf⟩ := h0
    rcases Deep.open_slice Try.underlying36 hf with ⟨hcs, _⟩ | ⟨x, l, c, m, n, D, Pl, hcs, _, hl, hm, hmm, _, hcell⟩
    · simp [Value.cells] at hcs
      obtain ⟨rfl, rfl, rfl⟩ := hcs
      exact ⟨fun _ => default, .inl ⟨rfl, rfl, rfl⟩⟩
    · simp [Value.cells] at hcs
      obtain ⟨rfl, rfl, rfl⟩ := hcs
      rw [if_pos rfl] at hmm
      obtain ⟨Z, hZ⟩ := Deep.choose_lt (n := len0) (p := fun i z => OpAt W (x.add (i * 8)) z) (fun i hi => by
        obtain ⟨cs', e1, e2⟩ := hcell i (by omega)
        rw [Try.cells43] at e1
        obtain ⟨z, rfl⟩ := op_of_cells e2
        exact ⟨z, opAt_cells e1⟩)
      exact ⟨Z, .inr ⟨x, rfl, hl, hm, hZ⟩⟩
  clear hA0 hval0
  refine (walk a0 len0 cap0 Z W w0).mono fun e W' ⟨he, bel⟩ => ?_
  subst he
  exact ⟨_, rfl, _, _, _, [], _, [], hW', trodAll_mk1 (shut_bool Try.underlying4 _), (trodAll_cons_mk (Below.trod laidOut (by kernel_rfl) (of_decide_eq_true (by kernel_rfl)) k0 bel lt0) trodAll_mk0), rfl, bel.frame _, fun h => by cases h⟩

theorem over : Rows.fnByKeyTokenWritersAgreeRow.holds Try.pinned (OpenSpec.ofChange Rows.fnByKeyTokenWritersAgreeSpec) :=
  OpenClaim.holds_of_wide 5 Try.f5 rfl rfl rfl rfl rfl rfl rfl ⟨rfl, rfl, rfl, rfl, rfl⟩ rfl rfl rfl rfl rfl (by kernel_rfl) Try.func5 (by kernel_rfl)
    (of_decide_eq_true (by kernel_rfl)) (by unfold Func.isWrapper; first | (rw [if_pos (by decide +kernel)]; kernel_rfl) | (rw [if_neg (by decide +kernel)]; exact ⟨rfl, rfl⟩))
    (fun os started H enc _ => lifted os started H enc)

/-- THE STATEMENT -/
theorem proved : Rows.FnByKeyTokenWritersAgreeSaid := over
end fnByKeyTokenWritersAgree

/-- THE STATEMENT, in the seat's own namespace -/
theorem agree_said : Rows.FnByKeyTokenWritersAgreeSaid := fnByKeyTokenWritersAgree.proved
#print axioms agree_said
end Go.Proofs.Qxb6602630a
