/-
  THE WALKS: from any heap, the law FnTokens of the given program returns true and changes nothing that lay there when it was called.
  CONDITION (for a place within the list of words alone): the 84 cells of block 0 hold the texts of the tokens. Met on the way: String of a token (function 6), TokenText (5), Words (4).
-/
import Derived.Test.YthdeffbhpdcifaaDoorWords
import Derived.WalkKit
namespace Go.Proofs.YthdeffbhpdcifaaDoor
open Go Go.RowKit

theorem string_any (k : Nat) (h : k < 84) (s : ByteArray) (w : World) (hc : w.cell? ⟨0, k, none⟩ = some (.string s)) :
    Calls Tryd.prog 6 #[.int .i8 k] w fun e w' => e = .returned (.string s) ∧ w = w' := by
  go_enter Tryd.func6, Tryd.ntmps6
  go_wp2
  go_ret
  exact ⟨rfl, rfl⟩

theorem text_any (k : Nat) (h : k < 84) (s : ByteArray) (w : World) (hc : w.cell? ⟨0, k, none⟩ = some (.string s)) :
    Calls Tryd.prog 5 #[.int .i64 k] w fun e w' => e = .returned (.string s) ∧ w = w' := by
  go_enter Tryd.func5, Tryd.ntmps5
  go_wp2_with (go_at_call 6; refine (string_any k h s _ hc).mono ?_; rintro e w' ⟨rfl, rfl⟩)
  go_ret
  exact ⟨rfl, rfl⟩

/-- The texts as values. -/
def vals (ls : List (List UInt8)) : List Value := ls.map fun l => .string { data := l.toArray }

theorem words_any (w : World) :
    Calls Tryd.prog 4 #[] w fun e w' => e = .returned (.slice (some ⟨w.heap.size, 0, none⟩) 32 32) ∧ w' = w.alloc (.cells (vals langWords).toArray 9) := by
  go_enter Tryd.func4, Tryd.ntmps4
  go_wp2
  go_ret
  exact ⟨rfl, rfl⟩

theorem words_owns (w : World) :
    Calls Tryd.prog 4 #[] w fun e w' => e = .returned (.slice (some ⟨w.heap.size, 0, none⟩) 32 32) ∧ w'.ownsRow w.heap.size 9 1 (.slice (some ⟨w.heap.size, 0, none⟩) 32 32) 32 (vals langWords) ∧ Below w.heap.size w w' := by
  refine (words_any w).mono fun e w' ⟨he, hw⟩ => ⟨he, ?_, ?_⟩
  · subst hw
    exact World.ownsRow_lit w (vals langWords).toArray 32 (Nat.le_refl _) (by decide) (by decide)
  · subst hw
    exact (Below.refl _ _).alloc (Nat.le_refl _) _

theorem Tryd.info9 : (Tryd.prog.info? 9).map (fun i => (i.zero, i.size, i.bytes)) = some (some (.string ByteArray.empty), 1, 16) := by kernel_rfl

theorem signs_at (w : World) : ∀ j u, (vals signWords)[j]? = some u → (w.alloc (.cells (vals signWords).toArray 9)).cell? ((⟨w.heap.size, 0, none⟩ : Addr).add j) = some u := by
  intro j u hu
  rw [Addr.add_lit, Nat.zero_add, World.cell?_alloc_at _ _ _ _ rfl]
  simpa using hu

theorem one_cell {ls : List (List UInt8)} : ∀ u ∈ vals ls, u.oneCell' = true := by
  intro u hu
  obtain ⟨l, _, rfl⟩ := List.mem_map.1 hu
  rfl

/-- append of the signs behind the words: a slice of 73 texts. -/
theorem words_append {ops : Array Oper} {rest : List Oper} {o : Oper} {a : Act} {w w1 : World} {Q : Exit → Act → World → Prop} (hgd : o.guard = none) (s x : Operand)
    (ho : o.op = .call { callee := .builtin .append, args := #[s, x], argTypes := #[22, 22] }) (v : Value) (hs : a.eval s = v)
    (hown : w1.ownsRow w.heap.size 9 1 v 32 (vals langWords)) (hb : Below w.heap.size w w1) (hx : a.eval x = .slice (some ⟨w1.heap.size, 0, none⟩) 41 41)
    (h : ∀ g cap w2, w2.ownsRow w.heap.size 9 1 (.slice (some ⟨g, 0, none⟩) 73 cap) 73 (vals (langWords ++ signWords)) → Below w.heap.size w w2 → wpList Tryd.prog ops Q rest (a.put o.dst (.slice (some ⟨g, 0, none⟩) 73 cap)) w2) :
    wpList Tryd.prog ops Q (o :: rest) a (w1.alloc (.cells (vals signWords).toArray 9)) := by
  obtain ⟨i0, hi, hz0, hz1, hz2⟩ := info_parts Tryd.info9
  have hsz := hb.size
  refine wpList_append_own _ hgd s x 22 ho w.heap.size 9 i0 (.string ByteArray.empty) 1 16 Tryd.underlying22 hi hz0 hz1 hz2 rfl (by decide) v 32 (vals langWords) hs (hown.alloc _) ⟨w1.heap.size, 0, none⟩ 41 41 (vals signWords) hx rfl (signs_at _) one_cell (by decide) (by decide) (by simp; omega) ?_
  intro v' w2 hown2 hg _
  have hv := (hown.alloc (.cells (vals signWords).toArray 9)).lt
  have hb2 : Below w.heap.size w w2 := (hb.alloc hb.size _).grown hg (by simp; omega) (fun k hk => (hv k hk).1)
  have e1 : vals langWords ++ vals signWords = vals (langWords ++ signWords) := by simp [vals]
  rw [e1] at hown2
  have h2 := hown2.2
  rcases h2 with ⟨_, h0⟩ | ⟨g, cap, cur, rfl, _⟩
  · exact absurd h0 (by decide)
  · exact h g cap w2 hown2 hb2

theorem tokens_low (n : Int) (w : World) (h : n < 0) :
    Calls Tryd.prog 3 #[.int .i64 n] w fun e w' => e = .returned (.bool true) ∧ Below w.heap.size w w' := by
  go_enter Tryd.func3, Tryd.ntmps3
  go_wp2_with (first
    | (go_at_call 4; refine (words_owns _).mono ?_; rintro e w1 ⟨rfl, hown, hb⟩)
    | (at_builtin; refine words_append (w := w) rfl _ _ rfl _ rfl hown hb rfl ?_; intro g cap w2 hown2 hb2))
  go_ret
  exact ⟨rfl, hb2⟩

theorem tokens_high (n : Int) (w : World) (h : 73 ≤ n) :
    Calls Tryd.prog 3 #[.int .i64 n] w fun e w' => e = .returned (.bool true) ∧ Below w.heap.size w w' := by
  have h0 : ¬ n < 0 := by omega
  go_enter Tryd.func3, Tryd.ntmps3
  go_wp2_with (first
    | (go_at_call 4; refine (words_owns _).mono ?_; rintro e w1 ⟨rfl, hown, hb⟩)
    | (at_builtin; refine words_append (w := w) rfl _ _ rfl _ rfl hown hb rfl ?_; intro g cap w2 hown2 hb2))
  go_ret
  exact ⟨rfl, hb2⟩

theorem word_at {w2 : World} {base g cap : Nat} (h : w2.ownsRow base 9 1 (.slice (some ⟨g, 0, none⟩) 73 cap) 73 (vals (langWords ++ signWords))) (j : Nat) (hj : j < 73) : w2.cell? ⟨g, j, none⟩ = some (.string (word j)) := by
  rw [h.cellAt j (by omega)]
  have hj' : j < (langWords ++ signWords).length := by rw [words_length]; exact hj
  simp only [vals, List.getElem?_map, List.getElem?_eq_getElem hj', Option.map_some, word, List.getD_eq_getElem?_getD, Option.getD_some]

set_option maxRecDepth 100000 in
theorem tokens_mid (j : Nat) (w : World) (hj : j < 73) (hc : ∀ k, k < 84 → w.cell? ⟨0, k, none⟩ = some (.string (tok k))) :
    Calls Tryd.prog 3 #[.int .i64 j] w fun e w' => e = .returned (.bool true) ∧ Below w.heap.size w w' := by
  have h0 : ¬ (j : Int) < 0 := by omega
  have hpos : 0 < w.heap.size := World.block_lt_of_cell? w ⟨0, 0, none⟩ (hc 0 (by omega))
  have HC : Hid (∀ k, k < 84 → w.cell? ⟨0, k, none⟩ = some (.string (tok k))) := hc
  clear hc
  go_enter Tryd.func3, Tryd.ntmps3
  go_wp2_with (first
    | (go_at_call 4; refine (words_owns _).mono ?_; rintro e w1 ⟨rfl, hown, hb⟩)
    | (at_builtin; refine words_append (w := w) rfl _ _ rfl _ rfl hown hb rfl ?_; intro g cap w2 hown2 hb2))
  have hw := word_at hown2 j hj
  go_loop [4, 5] (fun f i => ∃ k : Nat, k ≤ 83 ∧ i = .int .i64 k ∧ f = .int .i64 (cnt (word j) k : Nat)) (fun _ i => 83 - (intOf i).toNat)
  case atStart => exact ⟨0, by omega, rfl, rfl⟩
  case round =>
    obtain ⟨k, hk, rfl, rfl⟩ := hrel
    have hle := cnt_le (word j) k
    have ht : w2.cell? ⟨0, k, none⟩ = some (.string (tok k)) := (hb2.cell (p := ⟨0, k, none⟩) hpos).trans (HC.out k (by omega))
    by_cases hlt : k < 83
    · have hy := tok_before k hlt
      cases hq : ((tok k).toList == (word j).toList)
      · go_wp2_with (go_at_call 5; refine (text_any k (by omega) (tok k) _ ht).mono ?_; rintro e w' ⟨rfl, rfl⟩)
        go_round
        case rel => exact ⟨k + 1, by omega, by go_num, by rw [cnt_no hq]⟩
        case measure => simp [intOf]; omega
      · go_wp2_with (go_at_call 5; refine (text_any k (by omega) (tok k) _ ht).mono ?_; rintro e w' ⟨rfl, rfl⟩)
        go_round
        case rel => exact ⟨k + 1, by omega, by go_num, by rw [cnt_yes hq]; go_num⟩
        case measure => simp [intOf]; omega
    · obtain rfl : k = 83 := by omega
      have hy := tok_yield
      have HF : Hid (cnt (word j) 84 = 1) := cnt_word j hj
      cases hq : ((tok 83).toList == (word j).toList)
      · go_wp2_with (go_at_call 5; refine (text_any 83 (by omega) (tok 83) _ ht).mono ?_; rintro e w' ⟨rfl, rfl⟩)
        go_ret
        exact ⟨by rw [← cnt_no hq, HF.out]; rfl, hb2⟩
      · go_wp2_with (go_at_call 5; refine (text_any 83 (by omega) (tok 83) _ ht).mono ?_; rintro e w' ⟨rfl, rfl⟩)
        go_ret
        exact ⟨by rw [show cnt (word j) 83 = 0 by have e : cnt (word j) 84 = cnt (word j) 83 + 1 := cnt_yes hq; have := HF.out; omega]; rfl, hb2⟩

end Go.Proofs.YthdeffbhpdcifaaDoor
