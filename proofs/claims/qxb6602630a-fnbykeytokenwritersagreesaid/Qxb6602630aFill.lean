/-
  The clone, the base, the steps: rows of the call's own, filled one by one.
-/
import Derived.Test.Qxb6602630aBase
import Derived.Deep.MidRow
namespace Go.Proofs.Qxb6602630a
open Go.RowKit Go.PlainAid

theorem Try.info43 : (Try.prog.info? 43).map (fun i => (i.zero, i.size, i.bytes)) = some (some (.agg #[.int .i64 0, .string .empty, .string .empty, .string .empty, .string .empty, .int .i64 0, .int .i64 0, .bool false]), 8, 96) := by kernel_rfl
theorem Try.info41 : (Try.prog.info? 41).map (fun i => (i.zero, i.size, i.bytes)) = some (some (.agg #[.int .i64 0, .string .empty, .string .empty, .string .empty, .string .empty, .int .i64 0, .int .i64 0, .bool false]), 8, 96) := by kernel_rfl
theorem Try.info30 : (Try.prog.info? 30).map (fun i => (i.zero, i.size, i.bytes)) = some (some (.agg #[.pointer none, .int .i64 0, .bool false, .pointer none]), 4, 32) := by kernel_rfl
theorem Try.info25 : (Try.prog.info? 25).map (fun i => (i.zero, i.size, i.bytes)) = some (some (.slice none 0 0), 1, 24) := by kernel_rfl

theorem s43 : (Try.prog.info? 43).map (·.size) = some 8 := by kernel_rfl
theorem s41 : (Try.prog.info? 41).map (·.size) = some 8 := by kernel_rfl
theorem s30 : (Try.prog.info? 30).map (·.size) = some 4 := by kernel_rfl

theorem there_own {w : World} {base : Nat} {e : TypeId} {size g n cap : Nat} {xs : List Value} (h : w.ownsRow base e size (.slice (some ⟨g, 0, none⟩) n cap) n xs) : w.there g 0 (n * size) := by
  intro c hc
  rw [Nat.zero_add]
  refine ⟨?_, h.frozenAt c⟩
  rw [h.cellAt c hc, List.getElem?_eq_getElem (by rw [h.1]; exact hc)]
  rfl

theorem there_part {w : World} {b m : Nat} (h : w.there b 0 m) (o n : Nat) (hn : o + n ≤ m) : w.there b o n := by
  intro j hj
  have := h (o + j) (by omega)
  rwa [Nat.zero_add] at this

def ZOp.cells (z : ZOp) : List Value := [.int .i64 z.cl, .string z.kind, .string z.key, .string z.val, .string z.out, .int .i64 z.call, .int .i64 z.ret, .bool z.ans]

theorem opAt_range {w : World} {b o : Nat} {z : ZOp} (h : w.rangeAt b o z.cells) : OpAt w ⟨b, o, none⟩ z :=
  ⟨h 0 _ rfl, h 1 _ rfl, h 2 _ rfl, h 3 _ rfl, h 4 _ rfl, h 5 _ rfl, h 6 _ rfl, h 7 _ rfl⟩

theorem below_setCells {B : Nat} {a : World} {b : Nat} (hp : B ≤ b) : ∀ (vs : List Value) (o : Nat) (w : World), Below B a w → Below B a (w.setCells b o vs)
  | [], _, _, h => h
  | v :: r, o, _, h => below_setCells hp r (o + 1) _ (h.setCell (p := ⟨b, o, none⟩) hp v)

theorem size_setCells (b : Nat) : ∀ (vs : List Value) (o : Nat) (w : World), (w.setCells b o vs).heap.size = w.heap.size
  | [], _, _ => rfl
  | v :: r, o, w => by
    rw [World.setCells, size_setCells b r]
    simp

theorem range_below {w w' : World} {b o m : Nat} {cs : List Value} (h : w.rangeAt b o cs) (hb : Below m w w') (hm : b < m) : w'.rangeAt b o cs := by
  intro j v hv
  rw [hb.cell (by exact hm)]
  exact h j v hv

theorem there_below {w w' : World} {b o n m : Nat} (h : w.there b o n) (hb : Below m w w') (hm : b < m) : w'.there b o n := by
  intro j hj
  rw [hb.cell (by exact hm), hb.frozen (by exact hm)]
  exact h j hj

theorem wpList_store_op {ops : Array Oper} {rest : List Oper} {op : Oper} {a : Act} {w : World} {Q : Exit → Act → World → Prop} (hgd : op.guard = none) (ty : TypeId) (x y : Operand) (ho : op.op = .store ty x y)
    (b o : Nat) (z : ZOp) (hx : a.eval x = .pointer (some ⟨b, o, none⟩)) (hy : a.eval y = .agg #[.int .i64 z.cl, .string z.kind, .string z.key, .string z.val, .string z.out, .int .i64 z.call, .int .i64 z.ret, .bool z.ans])
    (ht : w.there b o 8) (hi : (Try.prog.info? ty).map (·.size) = some 8) (W : World) (hW : w.setCells b o z.cells = W)
    (h : wpList Try.prog ops Q rest (a.put op.dst undef) W) : wpList Try.prog ops Q (op :: rest) a w :=
  wpList_store_mid hgd ty x y ho b o _ hx hy ht hi (by simp [Value.oneCell']) (by subst hW; exact h)

set_option maxRecDepth 100000 in
set_option maxHeartbeats 1000000 in
theorem clone_some (x : Addr) (len cap : Nat) (hlen : len ≤ 65536) (Z : Nat → ZOp) (w : World) (hc : ∀ i, i < len → OpAt w (x.add (i * 8)) (Z i)) :
    Calls Try.prog 13 #[.slice (some x) len cap] w fun e w' => e = .returned (.slice (some ⟨w.heap.size, 0, none⟩) len len) ∧ (∀ i, i < len → w'.rangeAt w.heap.size (i * 8) (Z i).cells) ∧ w.heap.size < w'.heap.size ∧ Below w.heap.size w w' := by
  obtain ⟨i0, hi, hz0, hz1, hz2⟩ := info_parts Try.info43
  have Hc : Hid (∀ i, i < len → OpAt w (x.add (i * 8)) (Z i)) := hc
  clear hc
  have hnil := Lib.run_eql_slice_nil (P := Try.prog) w 36 43 (some x) len cap 0 0 Try.underlying36
  go_enter Try.func13, Try.ntmps13
  go_wp2_with (at_make; refine wpList_make_full _ rfl (.tmp 8) (.tmp 8) 36 rfl w.heap.size 43 i0 _ 8 Try.underlying36 hi hz0 hz1 .i64 .i64 _ _ len rfl rfl rfl rfl (by rw [hz2]; omega) (by unfold maxLen; omega) (Nat.le_refl _) ?_; intro w1 hown hgrow)
  have hb1 : Below w.heap.size w w1 := (Below.refl _ _).grown hgrow (Nat.le_refl _) (fun k hk => by cases hk)
  have hs1 := (hown.lt w.heap.size rfl).2
  have Hr : Hid (w1.there w.heap.size 0 (len * 8)) := there_own hown
  have Hb1 : Hid (Below w.heap.size w w1) := hb1
  clear hown hgrow hb1
  go_wp2_with fail
  go_loopw [4] (fun v wr => ∃ k : Nat, k ≤ len ∧ v = .int .i64 k ∧ w.heap.size < wr.heap.size ∧ Hid (wr.there w.heap.size 0 (len * 8)) ∧ Hid (∀ i, i < k → wr.rangeAt w.heap.size (i * 8) (Z i).cells) ∧ Hid (Below w.heap.size w wr)) (fun v _ => len - (intOf v).toNat)
  case atStart => exact ⟨0, Nat.zero_le _, rfl, hs1, Hr, (fun i hi => absurd hi (Nat.not_lt_zero _)), Hb1⟩
  case round =>
    obtain ⟨k, hk, rfl, hsz, hr, ho, hb⟩ := hrel
    by_cases hlt : k < len
    · have hop := Hc.out k hlt
      have hlx := Lib.lt_of_cell hop.1
      obtain ⟨c0, c1, c2, c3, c4, c5, c6, c7⟩ := opAt_below hop hlx hb.out
      have ht := there_part hr.out (k * 8) 8 (by omega)
      have Hs : Hid (∀ i, i < k + 1 → (wr.setCells w.heap.size (k * 8) (Z k).cells).rangeAt w.heap.size (i * 8) (Z i).cells) := by
        intro i hi
        by_cases e : i = k
        · subst e
          exact World.rangeAt_setCells_same _ _ _ _ ht
        · exact World.rangeAt_setCells_apart (ho.out i (by omega)) _ _ _ (Or.inr (Or.inl (by simp [ZOp.cells]; omega)))
      have Hr2 : Hid ((wr.setCells w.heap.size (k * 8) (Z k).cells).there w.heap.size 0 (len * 8)) := World.there_setCells hr.out _ _ _
      have Hb2 : Hid (Below w.heap.size w (wr.setCells w.heap.size (k * 8) (Z k).cells)) := below_setCells (Nat.le_refl _) _ _ _ hb.out
      have hs2 : w.heap.size < (wr.setCells w.heap.size (k * 8) (Z k).cells).heap.size := by rw [size_setCells]; exact hsz
      have Ht : Hid (wr.there w.heap.size (k * 8) 8) := ht
      clear ht hop
      generalize hW : wr.setCells w.heap.size (k * 8) (Z k).cells = W2 at *
      have HW : Hid (wr.setCells w.heap.size (k * 8) (Z k).cells = W2) := hW
      clear hW
      go_wp2_with (refine wpList_store_op rfl 43 (.tmp 22) (.tmp 21) rfl w.heap.size (k * 8) (Z k) rfl rfl Ht s43 W2 HW ?_)
      exact ⟨⟨k + 1, by omega, rfl, hs2, Hr2, Hs, Hb2⟩, by simp [intOf]; omega⟩
    · have e : k = len := by omega
      subst e
      go_wp2_with fail
      go_ret
      exact ⟨rfl, ho, hsz, hb⟩

set_option maxRecDepth 100000 in
set_option maxHeartbeats 1000000 in
theorem clone_nil (w : World) : Calls Try.prog 13 #[.slice none 0 0] w fun e w' => e = .returned (.slice none 0 0) ∧ w = w' := by
  have hnil := Lib.run_eql_slice_nil (P := Try.prog) w 36 43 none 0 0 0 0 Try.underlying36
  go_enter Try.func13, Try.ntmps13
  go_wp2_with fail
  go_ret
  exact ⟨rfl, rfl⟩

set_option maxRecDepth 100000 in
set_option maxHeartbeats 1000000 in
theorem fromZ (z : ZOp) (w : World) : Calls Try.prog 14 #[.agg #[.int .i64 z.cl, .string z.kind, .string z.key, .string z.val, .string z.out, .int .i64 z.call, .int .i64 z.ret, .bool z.ans]] w
    fun e w' => e = .returned (.agg #[.int .i64 z.cl, .string z.kind, .string z.key, .string z.val, .string z.out, .int .i64 z.call, .int .i64 z.ret, .bool z.ans]) ∧ Below w.heap.size w w' := by
  go_enter Try.func14, Try.ntmps14
  go_wp2_with fail
  refine bodyPost_ret (v := .agg #[.int .i64 z.cl, .string z.kind, .string z.key, .string z.val, .string z.out, .int .i64 z.call, .int .i64 z.ret, .bool z.ans]) (by simp [results, Try.results14, go_sem]) rfl ⟨rfl, ?_⟩
  exact ((Below.refl _ _).alloc (Nat.le_refl _) _).alloc (by simp) _

set_option maxRecDepth 100000 in
set_option maxHeartbeats 1000000 in
theorem makeStep (p : Addr) (w : World) : Calls Try.prog 20 #[.pointer (some p), .int .i64 0, .bool false, .pointer none] w
    fun e w' => e = .returned (.agg #[.pointer (some p), .int .i64 0, .bool false, .pointer none]) ∧ Below w.heap.size w w' := by
  go_enter Try.func20, Try.ntmps20
  go_wp2_with fail
  refine bodyPost_ret (v := .agg #[.pointer (some p), .int .i64 0, .bool false, .pointer none]) (by simp [results, Try.results20, go_sem]) rfl ⟨rfl, ?_⟩
  exact (Below.refl _ _).alloc (Nat.le_refl _) _
end Go.Proofs.Qxb6602630a
