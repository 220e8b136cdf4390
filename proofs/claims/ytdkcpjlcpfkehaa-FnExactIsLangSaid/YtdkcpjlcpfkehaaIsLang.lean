/- The walks of gover.IsLang and impl.IsLang. -/
import Derived.Test.YtdkcpjlcpfkehaaIs
namespace Go.Proofs.Ytdkcpjlcpfkehaa
open Go.RowKit Plain

theorem emp {m : List UInt8} (h : m ≠ []) : m.isEmpty = false := by cases m with | nil => exact absurd rfl h | cons => rfl

set_option maxRecDepth 100000 in
set_option maxHeartbeats 1000000 in
theorem gIsLang_yes (l m i : List UInt8) (w : World) (hl : l.length ≤ 140737488351232) (hm : m ≠ []) (hv : parse l = ⟨m, i, [], [], []⟩) :
    Calls Try.prog 28 #[.string (mk l)] w fun e w' => e = .returned (.bool true) ∧ Below w.heap.size w w' := by
  have HP := Lib.hid (gParse l)
  rw [hv] at HP
  have hb : (m == []) = false := by simpa using hm
  have hb' := emp hm
  clear hv hm
  unfold verV at HP
  simp only [] at HP
  go_enter Try.func28, Try.ntmps28
  go_wp2_with fail
  refine (HP.out _ hl).mono ?_
  rintro e w1 ⟨rfl, hbl⟩
  go_wp2_with fail
  go_ret
  exact ⟨rfl, hbl.alloc hbl.size _⟩

set_option maxRecDepth 100000 in
set_option maxHeartbeats 1000000 in
theorem gIsLang_patch (l m i p k q : List UInt8) (w : World) (hl : l.length ≤ 140737488351232) (hm : m ≠ []) (hp : p ≠ []) (hv : parse l = ⟨m, i, p, k, q⟩) :
    Calls Try.prog 28 #[.string (mk l)] w fun e w' => e = .returned (.bool false) ∧ Below w.heap.size w w' := by
  have HP := Lib.hid (gParse l)
  rw [hv] at HP
  have hb : (m == []) = false := by simpa using hm
  have hb' := emp hm
  have hp' := emp hp
  clear hv hm hp
  unfold verV at HP
  simp only [] at HP
  go_enter Try.func28, Try.ntmps28
  go_wp2_with fail
  refine (HP.out _ hl).mono ?_
  rintro e w1 ⟨rfl, hbl⟩
  go_wp2_with fail
  go_ret
  exact ⟨rfl, hbl.alloc hbl.size _⟩

set_option maxRecDepth 100000 in
set_option maxHeartbeats 1000000 in
theorem gIsLang_kind (l m i k q : List UInt8) (w : World) (hl : l.length ≤ 140737488351232) (hm : m ≠ []) (hk : k ≠ []) (hv : parse l = ⟨m, i, [], k, q⟩) :
    Calls Try.prog 28 #[.string (mk l)] w fun e w' => e = .returned (.bool false) ∧ Below w.heap.size w w' := by
  have HP := Lib.hid (gParse l)
  rw [hv] at HP
  have hb : (m == []) = false := by simpa using hm
  have hb' := emp hm
  have hk' := emp hk
  clear hv hm hk
  unfold verV at HP
  simp only [] at HP
  go_enter Try.func28, Try.ntmps28
  go_wp2_with fail
  refine (HP.out _ hl).mono ?_
  rintro e w1 ⟨rfl, hbl⟩
  go_wp2_with fail
  go_ret
  exact ⟨rfl, hbl.alloc hbl.size _⟩

/-- What is asked of a release: is its stage that of the language? -/
theorem gIsLang_rel (a b s n : Nat) (w : World) (hl : (textOf a b s n).length ≤ 140737488351232) (h : s % 5 ≠ 0 ∨ 21 ≤ b) :
    Calls Try.prog 28 #[.string (mk (textOf a b s n))] w fun e w' => e = .returned (.bool (decide (s % 5 = 0))) ∧ Below w.heap.size w w' := by
  have hv := parse_textOf a b s n h
  have ha := (num_dec a).2.1
  unfold verOf at hv
  by_cases h0 : s % 5 = 0
  · rw [if_pos h0] at hv
    rw [decide_eq_true h0]
    exact gIsLang_yes _ _ _ w hl ha hv
  · rw [if_neg h0] at hv
    rw [decide_eq_false h0]
    by_cases h4 : s % 5 = 4
    · rw [if_pos h4] at hv
      exact gIsLang_patch _ _ _ _ _ _ w hl ha (num_dec n).2.1 hv
    · rw [if_neg h4] at hv
      exact gIsLang_kind _ _ _ _ _ w hl ha (word_kindOf h0 h4).2 hv

theorem iIsLang_rel (a b s n : Nat) (w : World) (hl : (textOf a b s n).length ≤ 140737488351232) (h : s % 5 ≠ 0 ∨ 21 ≤ b) :
    Calls Try.prog 19 #[.string (mk (textOf a b s n))] w fun e w' => e = .returned (.bool (decide (s % 5 = 0))) ∧ Below w.heap.size w w' := by
  have H := Lib.hid (gIsLang_rel a b s n)
  generalize textOf a b s n = t at *
  generalize decide (s % 5 = 0) = c at *
  go_enter Try.func19, Try.ntmps19
  go_wp2_with fail
  refine (H.out _ hl h).mono ?_
  rintro e w' ⟨rfl, hb⟩
  go_wp2_with fail
  go_ret
  exact ⟨rfl, hb⟩
end Go.Proofs.Ytdkcpjlcpfkehaa
