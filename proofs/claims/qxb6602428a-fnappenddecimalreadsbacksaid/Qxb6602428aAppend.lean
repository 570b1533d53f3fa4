/-
  THE WALK of appendDecimal, from a nil dst.
-/
import Derived.Test.Qxb6602428aClone
namespace Go.Proofs.Qxb6602428a
open Go.RowKit Go.PlainAid

/-- 'append' of bytes onto a row of the call's own, from whatever source (nil too). -/
theorem append_src {w : World} {ops : Array Oper} {rest : List Oper} {o : Oper} {a : Act} {Q : Exit → Act → World → Prop} (hgd : o.guard = none) (s x : Operand)
    (ho : o.op = .call { callee := .builtin .append, args := #[s, x], argTypes := #[25, 25] })
    (base : Nat) (v : Value) (n : Nat) (xs : List Int) (hs : a.eval s = v) (hown : w.ownsRow base 5 1 v n (ints xs))
    (ao : Option Addr) (m c : Nat) (news : List Int) (hx : a.eval x = .slice ao m c) (hl : news.length = m) (hnone : ao = none → m = 0 ∧ c = 0)
    (hnews : ∀ ad, ao = some ad → ∀ j, j < m → w.cell? (ad.add j) = some (.int .u8 (news.getD j 0)))
    (hbd : n + m ≤ 1000000) (hbase : base ≤ w.heap.size)
    (h : ∀ v' w', w'.ownsRow base 5 1 v' (n + m) (ints (xs ++ news)) → Below base w w' → wpList Try.prog ops Q rest (a.put o.dst v') w') : wpList Try.prog ops Q (o :: rest) a w := by
  obtain ⟨i0, hi, hz0, hz1, hz2⟩ := info_parts Try.info5
  cases ao with
  | some ad =>
    refine wpList_append_own w hgd s x 25 ho base 5 i0 (.int .u8 0) 1 1 Try.underlying25 hi hz0 hz1 hz2 rfl (by decide) v n (ints xs) hs hown ad m c (ints news) hx (by rw [ints_length, hl, Nat.mul_one]) ?_ (ints_oneCell _ _) (by unfold maxLen; omega) (by omega) hbase ?_
    · intro j u hj
      have hjl : j < news.length := by
        rcases Nat.lt_or_ge j news.length with h1 | h1
        · exact h1
        · rw [List.getElem?_eq_none (by rw [ints_length]; exact h1)] at hj; cases hj
      rw [hnews ad rfl j (by omega)]
      rw [ints_get hjl] at hj
      exact hj
    · intro v' w' h1 h2 _
      refine h v' w' ?_ ((Below.refl _ _).grown h2 hbase (fun k hk => (hown.lt k hk).1))
      unfold ints at *
      rw [List.map_append]
      exact h1
  | none =>
    obtain ⟨rfl, rfl⟩ := hnone rfl
    have hnil : news = [] := List.eq_nil_of_length_eq_zero hl
    subst hnil
    refine wpList_append_own_none hgd s x 25 ho base 5 i0 1 Try.underlying25 hi v n (ints xs) hs hown hx ?_
    refine h v w ?_ (Below.refl _ _)
    rw [List.append_nil]
    exact hown

set_option maxHeartbeats 400000 in
theorem app_zero_pos (ao : Option Addr) (n cap : Nat) (D : List Int) (hD : D.length = n) (hn : n ≤ 524288) (w : World) (hnone : ao = none → n = 0 ∧ cap = 0)
    (hc : ∀ ad, ao = some ad → ∀ j, j < n → w.cell? (ad.add j) = some (.int .u8 (D.getD j 0))) :
    Calls Try.prog 26 #[.slice none 0 0, .slice ao n cap, .int .i64 0, .bool false] w fun e w' => ∃ v, e = .returned v ∧ w'.ownsRow w.heap.size 5 1 v (Plain.out false D 0).length (ints (Plain.out false D 0)) ∧ Below w.heap.size w w' := by
  have HD : Hid (D.length = n) := hD
  clear hD
  have Hc : Hid (∀ ad, ao = some ad → ∀ j, j < n → w.cell? (ad.add j) = some (.int .u8 (D.getD j 0))) := hc
  clear hc
  go_enter Try.func26, Try.ntmps26
  go_wp2_with (at_builtin; refine append_src rfl (.tmp 16) (.tmp 17) rfl w.heap.size _ 0 [] rfl (World.ownsRow_nil _ _ _ _) ao n cap D rfl HD.out hnone Hc.out (by omega) (Nat.le_refl _) ?_; intro v1 w1 ho1 hb1)
  go_ret
  refine ⟨_, rfl, ?_, hb1⟩
  have e : Plain.out false D 0 = [] ++ D := by unfold Plain.out; rw [Plain.body0]; rfl
  rw [e, List.length_append, HD.out]
  exact ho1

theorem one_new (w : World) (t : TypeId) (c : Int) : ∀ ad, some (⟨w.heap.size, 0, none⟩ : Addr) = some ad → ∀ j, j < 1 → (w.alloc (.cells #[.int .u8 c] t)).cell? (ad.add j) = some (.int .u8 ([c].getD j 0)) := by
  intro ad h j hj
  obtain rfl := Option.some.inj h
  obtain rfl : j = 0 := by omega
  simp [Addr.add]
theorem two_new (w : World) (t : TypeId) (c d : Int) : ∀ ad, some (⟨w.heap.size, 0, none⟩ : Addr) = some ad → ∀ j, j < 2 → (w.alloc (.cells #[.int .u8 c, .int .u8 d] t)).cell? (ad.add j) = some (.int .u8 ([c, d].getD j 0)) := by
  intro ad h j hj
  obtain rfl := Option.some.inj h
  have : j = 0 ∨ j = 1 := by omega
  rcases this with rfl | rfl <;> simp [Addr.add]
theorem some_none {x : Addr} {p : Prop} : some x = none → p := fun h => by cases h

/-- cells of an older world, in a later one -/
theorem older {w w1 : World} {ao : Option Addr} {n : Nat} {D : List Int} (hb : Below w.heap.size w w1) (hc : ∀ ad, ao = some ad → ∀ j, j < n → w.cell? (ad.add j) = some (.int .u8 (D.getD j 0))) :
    ∀ ad, ao = some ad → ∀ j, j < n → w1.cell? (ad.add j) = some (.int .u8 (D.getD j 0)) := fun ad h j hj => by
  rw [hb.cell (Lib.lt_of_cell (hc ad h j hj))]
  exact hc ad h j hj

set_option maxHeartbeats 400000 in
theorem app_zero_neg (ao : Option Addr) (n cap : Nat) (D : List Int) (hD : D.length = n) (hn : n ≤ 524288) (w : World) (hnone : ao = none → n = 0 ∧ cap = 0)
    (hc : ∀ ad, ao = some ad → ∀ j, j < n → w.cell? (ad.add j) = some (.int .u8 (D.getD j 0))) :
    Calls Try.prog 26 #[.slice none 0 0, .slice ao n cap, .int .i64 0, .bool true] w fun e w' => ∃ v, e = .returned v ∧ w'.ownsRow w.heap.size 5 1 v (Plain.out true D 0).length (ints (Plain.out true D 0)) ∧ Below w.heap.size w w' := by
  have HD : Hid (D.length = n) := hD
  clear hD
  have Hc : Hid (∀ ad, ao = some ad → ∀ j, j < n → w.cell? (ad.add j) = some (.int .u8 (D.getD j 0))) := hc
  clear hc
  go_enter Try.func26, Try.ntmps26
  go_wp2_with (first
    | (at_builtin; refine append_src rfl (.tmp 11) (.tmp 12) rfl w.heap.size _ 0 [] rfl (World.ownsRow_nil _ _ _ _) _ 1 1 [45] rfl rfl some_none (one_new _ _ _) (by omega) (by simp) ?_; intro v1 w1 ho1 hb1; have hb1' : Hid (Below w.heap.size w w1) := ((Below.refl _ _).alloc (Nat.le_refl _) _).trans hb1; clear hb1)
    | (at_builtin; refine append_src rfl (.tmp 16) (.tmp 17) rfl w.heap.size _ _ _ rfl ho1 ao n cap D rfl HD.out hnone (older hb1'.out Hc.out) (by omega) hb1'.out.size ?_; intro v2 w2 ho2 hb2))
  go_ret
  refine ⟨_, rfl, ?_, hb1'.out.trans hb2⟩
  have e : Plain.out true D 0 = [] ++ [45] ++ D := by unfold Plain.out; rw [Plain.body0]; rfl
  rw [e, List.length_append, HD.out]
  exact ho2
end Go.Proofs.Qxb6602428a
