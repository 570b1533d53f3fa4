/-
  THE WALKS of ZZAppendDecimal, isDigitByte, isPlainDecimal, places: over the text as a list of bytes.
-/
import Derived.Test.Qxb6602428aLong
import Derived.Test.Qxb6602428aShelf
import Derived.Lib.CutLaws
namespace Go.Proofs.Qxb6602428a
open Go.RowKit Go.PlainAid

/-! ### ZZAppendDecimal -/
theorem app_some (neg : Bool) (g n : Nat) (D : List Int) (hD : D.length = n) (hn : n ≤ 524288) (P : Nat) (hP : P ≤ 65536) (w : World)
    (hc : ∀ j, j < n → w.cell? ⟨g, j, none⟩ = some (.int .u8 (D.getD j 0))) :
    Calls Try.prog 26 #[.slice none 0 0, .slice (some ⟨g, 0, none⟩) n n, .int .i64 P, .bool neg] w fun e w' => ∃ v, e = .returned v ∧ w'.ownsRow w.heap.size 5 1 v (Plain.out neg D P).length (ints (Plain.out neg D P)) ∧ Below w.heap.size w w' := by
  have hc' : ∀ ad, some (⟨g, 0, none⟩ : Addr) = some ad → ∀ j, j < n → w.cell? (ad.add j) = some (.int .u8 (D.getD j 0)) := by
    intro ad h j hj
    obtain rfl := Option.some.inj h
    rw [Addr.add_lit, Nat.zero_add]
    exact hc j hj
  by_cases h0 : P = 0
  · subst h0
    cases neg with
    | false => exact app_zero_pos _ n n D hD hn w some_none hc'
    | true => exact app_zero_neg _ n n D hD hn w some_none hc'
  · by_cases h1 : n ≤ P
    · cases neg with
      | false => exact app_short_pos _ n n D hD P hP (by omega) h1 w some_none hc'
      | true => exact app_short_neg _ n n D hD P hP (by omega) h1 w some_none hc'
    · cases neg with
      | false => exact app_long_pos g n n D hD hn (Nat.le_refl _) hn P (by omega) (by omega) w hc
      | true => exact app_long_neg g n n D hD hn (Nat.le_refl _) hn P (by omega) (by omega) w hc

theorem app_nil (neg : Bool) (P : Nat) (hP : P ≤ 65536) (w : World) :
    Calls Try.prog 26 #[.slice none 0 0, .slice none 0 0, .int .i64 P, .bool neg] w fun e w' => ∃ v, e = .returned v ∧ w'.ownsRow w.heap.size 5 1 v (Plain.out neg [] P).length (ints (Plain.out neg [] P)) ∧ Below w.heap.size w w' := by
  have hn : (none : Option Addr) = none → 0 = 0 ∧ 0 = 0 := fun _ => ⟨rfl, rfl⟩
  have hc' : ∀ ad, (none : Option Addr) = some ad → ∀ j, j < 0 → w.cell? (ad.add j) = some (.int .u8 (([] : List Int).getD j 0)) := by
    intro ad h
    cases h
  by_cases h0 : P = 0
  · subst h0
    cases neg with
    | false => exact app_zero_pos _ 0 0 [] rfl (by omega) w hn hc'
    | true => exact app_zero_neg _ 0 0 [] rfl (by omega) w hn hc'
  · cases neg with
    | false => exact app_short_pos _ 0 0 [] rfl P hP (by omega) (by omega) w hn hc'
    | true => exact app_short_neg _ 0 0 [] rfl P hP (by omega) (by omega) w hn hc'

set_option maxHeartbeats 400000 in
theorem zzapp (neg : Bool) (x : Value) (D : List Int) (P : Nat) (w : World)
    (h : Calls Try.prog 26 #[.slice none 0 0, x, .int .i64 P, .bool neg] w fun e w' => ∃ v, e = .returned v ∧ w'.ownsRow w.heap.size 5 1 v (Plain.out neg D P).length (ints (Plain.out neg D P)) ∧ Below w.heap.size w w') :
    Calls Try.prog 20 #[.slice none 0 0, x, .int .i64 P, .bool neg] w fun e w' => ∃ v, e = .returned v ∧ w'.ownsRow w.heap.size 5 1 v (Plain.out neg D P).length (ints (Plain.out neg D P)) ∧ Below w.heap.size w w' := by
  generalize Plain.out neg D P = L at *
  go_enter Try.func20, Try.ntmps20
  go_wp2_with fail
  refine h.mono ?_
  rintro e w1 ⟨v, rfl, ho, hb⟩
  have Ho : Hid (w1.ownsRow w.heap.size 5 1 v L.length (ints L)) := ho
  have Hb : Hid (Below w.heap.size w w1) := hb
  clear ho hb
  go_wp2
  go_ret
  exact ⟨_, rfl, Ho, Hb⟩

/-! ### isDigitByte -/
set_option maxHeartbeats 400000 in
theorem isdig_any (c : Int) (w : World) : Calls Try.prog 23 #[.int .u8 c] w fun e w' => e = .returned (.bool (Plain.dig c)) ∧ w' = w := by
  by_cases h1 : 48 ≤ c
  · by_cases h2 : c ≤ 57
    · rw [Plain.dig_iff.2 ⟨h1, h2⟩]
      go_enter Try.func23, Try.ntmps23
      go_wp2
      go_ret
      exact ⟨rfl, rfl⟩
    · rw [Plain.dig_no.2 (fun h => h2 h.2)]
      go_enter Try.func23, Try.ntmps23
      go_wp2
      go_ret
      exact ⟨rfl, rfl⟩
  · rw [Plain.dig_no.2 (fun h => h1 h.1)]
    go_enter Try.func23, Try.ntmps23
    go_wp2
    go_ret
    exact ⟨rfl, rfl⟩

/-! ### the text as a string -/
theorem str_size (L : List Int) : (strOfNums L).size = L.length := strOfNums_size L
theorem str_bt {L : List Int} (hr : ∀ c ∈ L, 0 ≤ c ∧ c ≤ 255) (k : Nat) (hk : k < L.length) : bt (strOfNums L) k = L.getD k 0 := by
  unfold bt
  rw [dif_pos (by rw [str_size]; exact hk)]
  have hg : (strOfNums L)[k]'(by rw [str_size]; exact hk) = UInt8.ofNat (L[k]).toNat := by
    show (strOfNums L).data[k]'_ = _
    simp [strOfNums]
  rw [hg, List.getD_eq_getElem?_getD, List.getElem?_eq_getElem hk, UInt8.toNat_ofNat']
  have := hr L[k] (List.getElem_mem hk)
  simp only [Option.getD_some]
  omega

/-! ### isPlainDecimal -/
theorem trim_sign (neg : Bool) {B : List Int} (h : ∃ c r, B = c :: r ∧ Plain.dig c = true) :
    (⟨(Lib.trimPrefix (strOfNums (Plain.sign neg ++ B)).data.toList [45]).toArray⟩ : ByteArray) = strOfNums B := by
  obtain ⟨c, r, rfl, hd⟩ := h
  rw [strOfNums_data]
  unfold Lib.trimPrefix Lib.hasPrefix
  cases neg with
  | true => rfl
  | false =>
    have hc := Plain.dig_iff.1 hd
    have hne : ((45 : UInt8) == UInt8.ofNat c.toNat) = false := by
      rw [beq_eq_false_iff_ne]
      intro e
      have e2 := congrArg UInt8.toNat e
      rw [UInt8.toNat_ofNat'] at e2
      have e3 : (45 : UInt8).toNat = 45 := rfl
      omega
    have hpre : ([45] : List UInt8).isPrefixOf (List.map (fun n => UInt8.ofNat n.toNat) (Plain.sign false ++ c :: r)) = false := by
      show ((45 : UInt8) == UInt8.ofNat c.toNat && _) = false
      rw [hne, Bool.false_and]
    rw [hpre]
    rfl

set_option maxRecDepth 100000 in
set_option maxHeartbeats 1000000 in
theorem plain_ok (neg : Bool) (B : List Int) (hh : ∃ c r, B = c :: r ∧ Plain.dig c = true) (hb : ∀ c ∈ B, Plain.dig c = true ∨ c = 46) (hd : 0 < (B.filter Plain.dig).length) (hp : (B.filter Plain.pt).length ≤ 1) (hl : B.length ≤ 1000000) (w : World) :
    Calls Try.prog 24 #[.string (strOfNums (Plain.sign neg ++ B))] w fun e w' => e = .returned (.bool true) ∧ w' = w := by
  have hr : ∀ c ∈ B, 0 ≤ c ∧ c ≤ 255 := fun c hc => by
    rcases hb c hc with h | rfl
    · have := Plain.dig_iff.1 h; omega
    · omega
  have ht := Try.strings_TrimPrefix (strOfNums (Plain.sign neg ++ B)) ⟨#[45]⟩ w
  rw [show (⟨#[45]⟩ : ByteArray).data.toList = [45] from rfl, trim_sign neg hh] at ht
  have hsz := str_size B
  have hbt := fun k hk => str_bt hr k hk
  generalize strOfNums (Plain.sign neg ++ B) = s0 at *
  generalize strOfNums B = s at *
  have hg := get_bt s
  have Hbt : Hid (∀ k, k < B.length → bt s k = B.getD k 0) := hbt
  have Hb : Hid (∀ c ∈ B, Plain.dig c = true ∨ c = 46) := hb
  clear hbt hb hr hh
  have hsl : s.size ≤ 1000000 := by omega
  have Hsz : Hid (s.size = B.length) := hsz
  clear hsz
  have Hd : Hid (0 < (B.filter Plain.dig).length) := hd
  have Hp : Hid ((B.filter Plain.pt).length ≤ 1) := hp
  clear hd hp hl
  go_enter Try.func24, Try.ntmps24
  go_wp2_with fail
  refine ht.mono ?_
  rintro e w1 ⟨rfl, rfl⟩
  go_wp2
  go_loop [3, 4, 5] (fun d p v => ∃ i : Nat, i ≤ s.size ∧ v = .int .i64 i ∧ d = .int .i64 ((B.take i).filter Plain.dig).length ∧ p = .int .i64 ((B.take i).filter Plain.pt).length) (fun _ _ v => s.size - (intOf v).toNat)
  case atStart => exact ⟨0, Nat.zero_le _, rfl, by simp, by simp⟩
  case round =>
    obtain ⟨i, hi, rfl, rfl, rfl⟩ := hrel
    have l1 := Plain.filter_len_le Plain.dig B i
    have l2 := Plain.filter_len_le Plain.pt B i
    by_cases hlt : i < s.size
    · have hiB : i < B.length := by have := Hsz.out; omega
      have e1 := Hbt.out i hiB
      by_cases hdg : Plain.dig (B.getD i 0) = true
      · have hc := Plain.dig_iff.1 hdg
        have f1 : ((B.take (i + 1)).filter Plain.dig).length = ((B.take i).filter Plain.dig).length + 1 := by rw [Plain.filter_yes hiB hdg, List.length_append]; rfl
        have f2 : ((B.take (i + 1)).filter Plain.pt).length = ((B.take i).filter Plain.pt).length := by rw [Plain.filter_nope hiB (Plain.dig_not_pt hdg)]
        have F1 : Hid _ := f1
        have F2 : Hid _ := f2
        rw [← e1] at hc
        have c1 : 48 ≤ bt s i := hc.1
        have c2 : bt s i ≤ 57 := hc.2
        clear f1 f2 hdg hc e1
        generalize ((B.take i).filter Plain.dig).length = d at *
        generalize ((B.take i).filter Plain.pt).length = q at *
        go_wp2
        exact ⟨⟨i + 1, by omega, rfl, by rw [F1.out]; rfl, by rw [F2.out]⟩, by simp [intOf]; omega⟩
      · have hpt : B.getD i 0 = 46 := by
          rcases Hb.out _ (Plain.getD_mem hiB) with h | h
          · exact absurd h hdg
          · exact h
        have f1 : ((B.take (i + 1)).filter Plain.dig).length = ((B.take i).filter Plain.dig).length := by rw [Plain.filter_nope hiB (by simpa using hdg)]
        have f2 : ((B.take (i + 1)).filter Plain.pt).length = ((B.take i).filter Plain.pt).length + 1 := by rw [Plain.filter_yes hiB (by rw [hpt]; rfl), List.length_append]; rfl
        have F1 : Hid _ := f1
        have F2 : Hid _ := f2
        rw [hpt] at e1
        have c1 : ¬ 48 ≤ bt s i := by omega
        have c2 : (bt s i == 46) = true := beq_iff_eq.2 e1
        clear f1 f2 hdg hpt e1
        generalize ((B.take i).filter Plain.dig).length = d at *
        generalize ((B.take i).filter Plain.pt).length = q at *
        go_wp2
        exact ⟨⟨i + 1, by omega, rfl, by rw [F1.out], by rw [F2.out]; rfl⟩, by simp [intOf]; omega⟩
    · have e : B.take i = B := List.take_of_length_le (by have := Hsz.out; omega)
      rw [e] at *
      have hd := Hd.out
      have hp := Hp.out
      generalize (B.filter Plain.dig).length = d at *
      generalize (B.filter Plain.pt).length = q at *
      have hq : decide ((q : Int) ≤ 1) = true := decide_eq_true (by omega)
      clear e
      go_wp2
      go_ret
      exact ⟨rfl, rfl⟩

set_option maxHeartbeats 400000 in
theorem zzplain (neg : Bool) (B : List Int) (hh : ∃ c r, B = c :: r ∧ Plain.dig c = true) (hb : ∀ c ∈ B, Plain.dig c = true ∨ c = 46) (hd : 0 < (B.filter Plain.dig).length) (hp : (B.filter Plain.pt).length ≤ 1) (hl : B.length ≤ 1000000) (w : World) :
    Calls Try.prog 10 #[.string (strOfNums (Plain.sign neg ++ B))] w fun e w' => e = .returned (.bool true) ∧ w' = w := by
  have h := fun W => plain_ok neg B hh hb hd hp hl W
  generalize strOfNums (Plain.sign neg ++ B) = s0 at *
  clear hh hb hd hp hl
  go_enter Try.func10, Try.ntmps10
  go_wp2_with fail
  refine (h _).mono ?_
  rintro e w1 ⟨rfl, rfl⟩
  go_wp2
  go_ret
  exact ⟨rfl, rfl⟩

/-! ### places -/
theorem occ_false {c : UInt8} {t l : List UInt8} (h : c ∉ l) (j : Nat) : Lib.occAt l (c :: t) j = false := by
  cases ho : Lib.occAt l (c :: t) j with
  | false => rfl
  | true => exact absurd (List.mem_of_getElem? (Lib.occAt_head rfl ho)) h
theorem cut_miss {c : UInt8} {t l : List UInt8} (h : c ∉ l) : Lib.cut l (c :: t) = (l, [], false) := by
  unfold Lib.cut
  rw [Lib.index_none (fun j _ => occ_false h j), if_neg (by decide)]
theorem cut_hit {c : UInt8} {t a b : List UInt8} (h : c ∉ a) : Lib.cut (a ++ (c :: t) ++ b) (c :: t) = (a, b, true) := by
  have hi : Lib.index (a ++ (c :: t) ++ b) (c :: t) = (a.length : Nat) := by
    refine Lib.index_first (by simp) ?_ ?_
    · unfold Lib.occAt
      rw [List.append_assoc, List.drop_left]
      exact List.isPrefixOf_iff_prefix.2 ⟨b, rfl⟩
    · intro j hj
      cases ho : Lib.occAt (a ++ (c :: t) ++ b) (c :: t) j with
      | false => rfl
      | true =>
        have h1 := Lib.occAt_head rfl ho
        rw [List.append_assoc, List.getElem?_append_left hj] at h1
        exact absurd (List.mem_of_getElem? h1) h
  unfold Lib.cut
  rw [hi, if_pos (by omega)]
  simp only [Int.toNat_natCast]
  have e1 : (a ++ (c :: t) ++ b).take a.length = a := by rw [List.append_assoc, List.take_left]
  have e2 : (a ++ (c :: t) ++ b).drop (a.length + (c :: t).length) = b := by
    rw [← List.length_append, List.drop_left]
  rw [e1, e2]

/-- a number as a byte -/
def byte (n : Int) : UInt8 := UInt8.ofNat n.toNat
theorem data_eq (L : List Int) : (strOfNums L).data.toList = L.map byte := strOfNums_data L
theorem byte_46 {c : Int} (h0 : 0 ≤ c) (h1 : c ≤ 255) (h : byte c = 46) : c = 46 := by
  have e := congrArg UInt8.toNat h
  unfold byte at e
  rw [UInt8.toNat_ofNat'] at e
  have e3 : (46 : UInt8).toNat = 46 := rfl
  omega
theorem no_point {L : List Int} (h : ∀ c ∈ L, Plain.dig c = true ∨ c = 45) : (46 : UInt8) ∉ L.map byte := by
  intro hm
  obtain ⟨c, hc, e⟩ := List.mem_map.1 hm
  rcases h c hc with hd | rfl
  · have := Plain.dig_iff.1 hd
    have := byte_46 (by omega) (by omega) e
    omega
  · have := byte_46 (by omega) (by omega) e
    omega
theorem sign_bytes (neg : Bool) : ∀ c ∈ Plain.sign neg, c = 45 := by
  cases neg with
  | true => exact fun c hc => List.mem_singleton.1 hc
  | false => intro c hc; cases hc

/-- what strings.Cut at the point gives: (found, length behind) as places asks it -/
theorem cut_out (neg : Bool) {D : List Int} (h : Plain.AllDig D) (P : Nat) :
    (P = 0 ∧ ∃ a b, Lib.cut (strOfNums (Plain.out neg D P)).data.toList [46] = (a, b, false)) ∨
    (∃ a b, Lib.cut (strOfNums (Plain.out neg D P)).data.toList [46] = (a, b, true) ∧ b.length = P) := by
  rw [data_eq]
  by_cases h0 : P = 0
  · left
    subst h0
    refine ⟨rfl, _, _, cut_miss (no_point ?_)⟩
    intro c hc
    unfold Plain.out at hc
    rw [List.mem_append, Plain.body0] at hc
    rcases hc with hc | hc
    · exact Or.inr (sign_bytes neg c hc)
    · exact Or.inl (h c hc)
  · right
    obtain ⟨a, b, he, ha, hb⟩ := Plain.body_point h h0
    refine ⟨(Plain.sign neg ++ a).map byte, b.map byte, ?_, by rw [List.length_map]; exact hb⟩
    have e : (Plain.out neg D P).map byte = (Plain.sign neg ++ a).map byte ++ (46 :: []) ++ b.map byte := by
      unfold Plain.out
      rw [he]
      simp only [List.map_append, List.map_cons, List.append_assoc]
      rfl
    rw [e]
    refine cut_hit (no_point ?_)
    intro c hc
    rw [List.mem_append] at hc
    rcases hc with hc | hc
    · exact Or.inr (sign_bytes neg c hc)
    · exact Or.inl (ha c hc)

set_option maxHeartbeats 400000 in
theorem places_ok (neg : Bool) (D : List Int) (hD : Plain.AllDig D) (hn : D.length ≤ 524288) (P : Nat) (hP : P ≤ 65536) (m : Int) (w : World) (hm : w.cell? ⟨0, 0, none⟩ = some (.int .i64 m)) :
    Calls Try.prog 25 #[.string (strOfNums (Plain.out neg D P))] w fun e w' => e = .returned (.int .i64 P) ∧ ∃ k, w' = w.drewN k := by
  have hsz : (strOfNums (Plain.out neg D P)).size < 4294967281 := by
    rw [str_size]
    have := Plain.out_length_le neg D P
    omega
  have hc := Try.strings_Cut (strOfNums (Plain.out neg D P)) ⟨#[46]⟩ m w hsz hm
  rw [show (⟨#[46]⟩ : ByteArray).data.toList = [46] from rfl] at hc
  rcases cut_out neg hD P with ⟨rfl, a, b, he⟩ | ⟨a, b, he, hl⟩
  · rw [he] at hc
    generalize strOfNums (Plain.out neg D 0) = s at *
    clear he hsz
    go_enter Try.func25, Try.ntmps25
    go_wp2_with fail
    refine hc.mono ?_
    rintro e w1 ⟨rfl, k, rfl⟩
    go_wp2
    go_ret
    exact ⟨rfl, k, rfl⟩
  · rw [he] at hc
    have hbs : (⟨b.toArray⟩ : ByteArray).size = P := by simp [ByteArray.size, hl]
    generalize strOfNums (Plain.out neg D P) = s at *
    generalize (⟨b.toArray⟩ : ByteArray) = t at *
    clear he hsz hl
    have Hbs : Hid (t.size = P) := hbs
    clear hbs
    go_enter Try.func25, Try.ntmps25
    go_wp2_with fail
    refine hc.mono ?_
    rintro e w1 ⟨rfl, k, rfl⟩
    go_wp2
    go_ret
    exact ⟨by rw [← Hbs.out]; rfl, k, rfl⟩

set_option maxHeartbeats 400000 in
theorem zzplaces (neg : Bool) (D : List Int) (hD : Plain.AllDig D) (hn : D.length ≤ 524288) (P : Nat) (hP : P ≤ 65536) (m : Int) (w : World) (hm : w.cell? ⟨0, 0, none⟩ = some (.int .i64 m)) :
    Calls Try.prog 14 #[.string (strOfNums (Plain.out neg D P))] w fun e w' => e = .returned (.int .i64 P) ∧ ∃ k, w' = w.drewN k := by
  have h := places_ok neg D hD hn P hP m w hm
  generalize strOfNums (Plain.out neg D P) = s at *
  clear hD
  go_enter Try.func14, Try.ntmps14
  go_wp2_with fail
  refine h.mono ?_
  rintro e w1 ⟨rfl, k, rfl⟩
  go_wp2
  go_ret
  exact ⟨rfl, k, rfl⟩
end Go.Proofs.Qxb6602428a
