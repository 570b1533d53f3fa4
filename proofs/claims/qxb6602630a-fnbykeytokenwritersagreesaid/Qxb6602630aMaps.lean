/-
  A map from strings to ints (to bools) of the call's own, as a plain function.
-/
import Derived.Test.Qxb6602630aFill
import Derived.Maps.OwnSet
import Derived.Maps.AppendAt
namespace Go.Proofs.Qxb6602630a
open Go.RowKit Go.PlainAid

abbrev kl (s : ByteArray) : Lit := .string s.data.toList

theorem kl_ne {s t : ByteArray} (h : t ≠ s) : kl t ≠ kl s := by
  intro e
  simp only [kl, Lit.string.injEq] at e
  exact h (ByteArray.ext (Array.ext' e))

theorem key_mk (s : ByteArray) (hs : s.size ≤ maxLen) : keyOf Try.prog 9 (.string s) = some (kl s) := WideMaps.keyOf_string_mk Try.underlying9 hs

theorem kl_key (s : ByteArray) : WideAt.IsKeyLit (kl s) := by trivial

/-- block b: a map[string]int of at most n entries, 'sz' of them, that holds f -/
def MapSI (w : World) (b n : Nat) (f : ByteArray → Option Int) (sz : Nat) : Prop :=
  ∃ D : DataW Unit, w.ownsMap Try.prog 9 (plainElem Try.prog 3) b n D ∧ Maps.size D = sz ∧
    ∀ s, Maps.has D (kl s) = (f s).isSome ∧ D.atKey (kl s) (.lit (.int .i64 0)) = .lit (.int .i64 ((f s).getD 0))

theorem zero3 (w : World) : (zeroValue 3).run Try.prog w = .ok (.int .i64 0) w := by
  have hi : ∃ i, Try.prog.info? 3 = some i ∧ i.zero = some (.int .i64 0) := by
    have h : (Try.prog.info? 3).map (fun i => i.zero) = some (some (.int .i64 0)) := by kernel_rfl
    obtain ⟨i, hi, hz⟩ := Option.map_eq_some_iff.1 h
    exact ⟨i, hi, hz⟩
  obtain ⟨i, hi, hz⟩ := hi
  simp [zeroValue, typeInfo, hi, hz]
theorem zero4 (w : World) : (zeroValue 4).run Try.prog w = .ok (.bool false) w := by
  have hi : ∃ i, Try.prog.info? 4 = some i ∧ i.zero = some (.bool false) := by
    have h : (Try.prog.info? 4).map (fun i => i.zero) = some (some (.bool false)) := by kernel_rfl
    obtain ⟨i, hi, hz⟩ := Option.map_eq_some_iff.1 h
    exact ⟨i, hi, hz⟩
  obtain ⟨i, hi, hz⟩ := hi
  simp [zeroValue, typeInfo, hi, hz]

theorem mapSI_made (w : World) : MapSI (w.alloc (.map #[] 0)) w.heap.size 0 (fun _ => none) 0 :=
  ⟨.map [], World.ownsMap_made w _ _ _, rfl, fun _ => ⟨rfl, rfl⟩⟩

theorem mapSI_lt {w : World} {b n sz : Nat} {f : ByteArray → Option Int} (h : MapSI w b n f sz) : b < w.heap.size := by
  obtain ⟨D, ho, _⟩ := h
  exact ho.lt

theorem mapSI_below {w w' : World} {b n sz m : Nat} {f : ByteArray → Option Int} (h : MapSI w b n f sz) (hb : Below m w w') (hm : b < m) : MapSI w' b n f sz := by
  obtain ⟨D, ho, hs, hf⟩ := h
  obtain ⟨es, clock, he, r⟩ := ho
  exact ⟨D, ⟨es, clock, by rw [hb.block b hm]; exact he, r⟩, hs, hf⟩

theorem mapSI_kept {w w' : World} {b n sz : Nat} {f : ByteArray → Option Int} {row : Option Nat} (h : MapSI w b n f sz) (hg : w.grownBy w' row) (hne : some b ≠ row) : MapSI w' b n f sz := by
  obtain ⟨D, ho, hs, hf⟩ := h
  exact ⟨D, ho.kept hg hne, hs, hf⟩

theorem mapSI_mono {w : World} {b n n' sz : Nat} {f : ByteArray → Option Int} (h : MapSI w b n f sz) (hn : n ≤ n') : MapSI w b n' f sz := by
  obtain ⟨D, ho, hs, hf⟩ := h
  exact ⟨D, ho.mono hn, hs, hf⟩

theorem mapSI_look {w : World} {b n sz : Nat} {f : ByteArray → Option Int} (h : MapSI w b n f sz) (s : ByteArray) (hs : s.size ≤ maxLen) :
    (Instr.lookup 31 (.map (some b)) (.string s) true).run Try.prog w = .ok (.tuple #[.int .i64 ((f s).getD 0), .bool (f s).isSome]) w := by
  obtain ⟨D, ho, _, hf⟩ := h
  obtain ⟨v, ps, hrun, hv⟩ := ho.look_ok (Maps.string_keyed Try.underlying9) Try.underlying31 (zero3 w) (plainElem_int Try.underlying3 (by decide)) (key_mk s hs)
  obtain ⟨c, rfl, hc, _⟩ := plainElem_int_inv Try.underlying3 hv
  rw [(hf s).2] at hc
  simp only [Prod.mk.injEq, DataW.lit.injEq, Lit.int.injEq, true_and] at hc
  rw [hrun, (hf s).1, hc.1]

theorem mapSI_put {w : World} {b n sz : Nat} {f : ByteArray → Option Int} (h : MapSI w b n f sz) (hn : n < maxLen) (s : ByteArray) (hs : s.size ≤ maxLen) (c : Int) (hc : (Lit.int .i64 c).wf = true) :
    ∃ w', (Instr.mapUpdate 31 (.map (some b)) (.string s) (.int .i64 c)).run Try.prog w = .ok () w' ∧ MapSI w' b (n + 1) (fun t => if t = s then some c else f t) (if (f s).isSome then sz else sz + 1) ∧ w.grownBy w' (some b) := by
  obtain ⟨D, ho, hz, hf⟩ := h
  have htid := ho.tidy (Maps.string_keyed Try.underlying9)
  obtain ⟨w', hrun, ho', hg⟩ := ho.update (Maps.string_keyed Try.underlying9) Try.underlying31 hn (key_mk s hs) (plainElem_int Try.underlying3 hc)
  refine ⟨w', hrun, ⟨_, ho', ?_, ?_⟩, hg⟩
  · rw [Maps.size_put htid, (hf s).1, hz]
  · intro t
    by_cases e : t = s
    · subst e
      simp only [if_true]
      exact ⟨Maps.has_put_same htid.isMap (kl_key _) _, Maps.atKey_put_same htid.isMap (kl_key _) _ _⟩
    · simp only [if_neg e]
      rw [Maps.has_put_other (kl_ne e), Maps.atKey_put_other (kl_ne e)]
      exact hf t

theorem mapSI_len {w : World} {b n sz : Nat} {f : ByteArray → Option Int} (h : MapSI w b n f sz) (ty : TypeId) : (Builtin.len_ #[31] ty #[.map (some b)]).run Try.prog w = .ok (.int .i64 sz) w := by
  obtain ⟨D, ho, hz, hf⟩ := h
  rw [ho.len Try.underlying31, hz]

theorem wpList_put_SI (w : World) {ops : Array Oper} {rest : List Oper} {o : Oper} {a : Act} {Q : Exit → Act → World → Prop}
    (hg : o.guard = none) (m x v : Operand) (hop : o.op = Op.mapUpdate 31 m x v)
    (b n sz : Nat) (f : ByteArray → Option Int) (hm : a.eval m = .map (some b)) (h : MapSI w b n f sz) (hn : n < maxLen) (s : ByteArray) (hs : s.size ≤ maxLen) (c : Int) (hx : a.eval x = .string s) (hv : a.eval v = .int .i64 c) (hc : (Lit.int .i64 c).wf = true)
    (hK : ∀ w', MapSI w' b (n + 1) (fun t => if t = s then some c else f t) (if (f s).isSome then sz else sz + 1) → w.grownBy w' (some b) → wpList Try.prog ops Q rest (a.put o.dst undef) w') :
    wpList Try.prog ops Q (o :: rest) a w := by
  refine wpList_plain hg fun K' hK' => ?_
  obtain ⟨w', hrun, r1, r2⟩ := mapSI_put h hn s hs c hc
  unfold Oper.wp
  simp [execOp, hop, hm, hx, hv, hrun, Result.andThen]
  exact hK' _ _ (hK w' r1 r2)

theorem wpList_len_SI (w : World) {ops : Array Oper} {rest : List Oper} {o : Oper} {a : Act} {Q : Exit → Act → World → Prop} (hg : o.guard = none) (m : Operand) (hop : o.op = Op.call { callee := Callee.builtin Builtin.len, args := #[m], argTypes := #[31] })
    (b n sz : Nat) (f : ByteArray → Option Int) (hm : a.eval m = .map (some b)) (h : MapSI w b n f sz) (hK : wpList Try.prog ops Q rest (a.put o.dst (.int .i64 sz)) w) : wpList Try.prog ops Q (o :: rest) a w := by
  refine wpList_plain hg fun K' hK' => ?_
  unfold Oper.wp
  simp [execOp, hop, resolve, invoke, builtin, hm, mapSI_len h o.type, Result.andThen]
  exact hK' _ _ hK

/-- a map[string]bool that holds f (false where there is none) -/
def MapSB (w : World) (b n : Nat) (f : ByteArray → Bool) : Prop :=
  ∃ D : DataW Unit, w.ownsMap Try.prog 9 (plainElem Try.prog 4) b n D ∧ ∀ s, D.atKey (kl s) (.lit (.bool false)) = .lit (.bool (f s))

theorem mapSB_made (w : World) : MapSB (w.alloc (.map #[] 0)) w.heap.size 0 (fun _ => false) :=
  ⟨.map [], World.ownsMap_made w _ _ _, fun _ => rfl⟩

theorem mapSB_below {w w' : World} {b n m : Nat} {f : ByteArray → Bool} (h : MapSB w b n f) (hb : Below m w w') (hm : b < m) : MapSB w' b n f := by
  obtain ⟨D, ho, hf⟩ := h
  obtain ⟨es, clock, he, r⟩ := ho
  exact ⟨D, ⟨es, clock, by rw [hb.block b hm]; exact he, r⟩, hf⟩

theorem mapSB_look {w : World} {b n : Nat} {f : ByteArray → Bool} (h : MapSB w b n f) (s : ByteArray) (hs : s.size ≤ maxLen) :
    (Instr.lookup 51 (.map (some b)) (.string s) false).run Try.prog w = .ok (.bool (f s)) w := by
  obtain ⟨D, ho, hf⟩ := h
  obtain ⟨v, ps, hrun, hv⟩ := ho.lookup (Maps.string_keyed Try.underlying9) Try.underlying51 (zero4 w) (plainElem_bool Try.underlying4 false) (key_mk s hs)
  rw [hf s] at hv
  unfold plainElem at hv
  rw [Try.underlying4] at hv
  cases v <;> simp at hv
  rw [hrun, hv.1]

theorem wpList_put_SB (w : World) {ops : Array Oper} {rest : List Oper} {o : Oper} {a : Act} {Q : Exit → Act → World → Prop}
    (hg : o.guard = none) (m x v : Operand) (hop : o.op = Op.mapUpdate 51 m x v)
    (b n : Nat) (f : ByteArray → Bool) (hm : a.eval m = .map (some b)) (h : MapSB w b n f) (hn : n < maxLen) (s : ByteArray) (hs : s.size ≤ maxLen) (hx : a.eval x = .string s) (hv : a.eval v = .bool true)
    (hK : ∀ w', MapSB w' b (n + 1) (fun t => if t = s then true else f t) → w.grownBy w' (some b) → wpList Try.prog ops Q rest (a.put o.dst undef) w') :
    wpList Try.prog ops Q (o :: rest) a w := by
  refine wpList_plain hg fun K' hK' => ?_
  obtain ⟨D, ho, hf⟩ := h
  have htid := ho.tidy (Maps.string_keyed Try.underlying9)
  obtain ⟨w', hrun, ho', r2⟩ := ho.update (Maps.string_keyed Try.underlying9) Try.underlying51 hn (key_mk s hs) (plainElem_bool Try.underlying4 true)
  have r1 : MapSB w' b (n + 1) (fun t => if t = s then true else f t) := by
    refine ⟨_, ho', ?_⟩
    intro t
    by_cases e : t = s
    · subst e
      simp only [if_true]
      exact Maps.atKey_put_same htid.isMap (kl_key _) _ _
    · simp only [if_neg e]
      rw [Maps.atKey_put_other (kl_ne e)]
      exact hf t
  unfold Oper.wp
  simp [execOp, hop, hm, hx, hv, hrun, Result.andThen]
  exact hK' _ _ (hK w' r1 r2)
end Go.Proofs.Qxb6602630a
