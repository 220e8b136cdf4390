/- The walks of gover.IsValid and impl.IsValid. -/
import Derived.Test.YtdkcpjlcpfkehacParse4
namespace Go.Proofs.Ytdkcpjlcpfkehac
open Go.RowKit Plain

theorem parse_len (l : List UInt8) : (parse l).major.length ≤ l.length + 1 ∧ (parse l).minor.length ≤ l.length + 1 ∧ (parse l).patch.length ≤ l.length + 1 ∧ (parse l).kind.length ≤ l.length + 1 ∧ (parse l).pre.length ≤ l.length + 1 := by
  rcases parse_cases l with h | h
  · rw [h]; simp [zeroVer]
  · generalize parse l = v at h
    cases h with
    | major a ha => simp
    | minor a b ha hb =>
      refine ⟨by simp <;> omega, by simp <;> omega, ?_, by simp, by simp⟩
      simp only []
      split <;> simp
    | patch a b p ha hb hp => refine ⟨by simp <;> omega, by simp <;> omega, by simp <;> omega, by simp, by simp⟩
    | kind a b k ha hb hk => refine ⟨by simp <;> omega, by simp <;> omega, by simp, by simp <;> omega, by simp⟩
    | pre a b k q ha hb hk hq => refine ⟨by simp <;> omega, by simp <;> omega, by simp, by simp <;> omega, by simp <;> omega⟩

/-- Is it a version? -/
def validB (l : List UInt8) : Bool := !(parse l).major.isEmpty
theorem validB_true {l : List UInt8} : validB l = true ↔ parse l ≠ zeroVer := by
  unfold validB
  rw [ne_eq, parse_zero_iff]
  cases (parse l).major <;> simp
theorem validB_false {l : List UInt8} : validB l = false ↔ parse l = zeroVer := by
  unfold validB
  rw [parse_zero_iff]
  cases (parse l).major <;> simp

set_option maxHeartbeats 1000000 in
theorem gIsValid_yes (l : List UInt8) (w : World) (hl : l.length ≤ 140737488351232) (h : parse l ≠ zeroVer) :
    Calls Try.prog 23 #[.string (mk l)] w fun e w' => e = .returned (.bool true) ∧ Below w.heap.size w w' := by
  have hm : (parse l).major ≠ [] := fun e => h ((parse_zero_iff l).2 e)
  have HP := Lib.hid (gParse l)
  obtain ⟨⟨m, i, p, k, q⟩, hv⟩ : ∃ v, parse l = v := ⟨_, rfl⟩
  rw [hv] at HP hm
  have hb : (m == []) = false := by simpa using hm
  have hb' : m.isEmpty = false := by cases m with | nil => exact absurd rfl hm | cons => rfl
  clear hv h hm
  unfold verV at HP
  simp only [] at HP
  go_enter Try.func23, Try.ntmps23
  go_wp2_with fail
  refine (HP.out _ hl).mono ?_
  rintro e w1 ⟨rfl, hb⟩
  go_wp2_with fail
  go_ret
  exact ⟨rfl, hb⟩

set_option maxHeartbeats 1000000 in
theorem gIsValid_no (l : List UInt8) (w : World) (hl : l.length ≤ 140737488351232) (h : parse l = zeroVer) :
    Calls Try.prog 23 #[.string (mk l)] w fun e w' => e = .returned (.bool false) ∧ Below w.heap.size w w' := by
  have HP := Lib.hid (gParse l)
  rw [h] at HP
  clear h
  unfold verV zeroVer at HP
  simp only [] at HP
  go_enter Try.func23, Try.ntmps23
  go_wp2_with fail
  refine (HP.out _ hl).mono ?_
  rintro e w1 ⟨rfl, hb⟩
  go_wp2_with fail
  go_ret
  exact ⟨rfl, hb⟩

theorem gIsValid (l : List UInt8) (w : World) (hl : l.length ≤ 140737488351232) :
    Calls Try.prog 23 #[.string (mk l)] w fun e w' => e = .returned (.bool (validB l)) ∧ Below w.heap.size w w' := by
  by_cases h : parse l = zeroVer
  · rw [validB_false.2 h]; exact gIsValid_no l w hl h
  · rw [validB_true.2 h]; exact gIsValid_yes l w hl h

theorem iIsValid (l : List UInt8) (w : World) (hl : l.length ≤ 140737488351232) :
    Calls Try.prog 14 #[.string (mk l)] w fun e w' => e = .returned (.bool (validB l)) ∧ Below w.heap.size w w' := by
  go_enter Try.func14, Try.ntmps14
  go_wp2_with fail
  refine (gIsValid l _ hl).mono ?_
  rintro e w' ⟨rfl, hb⟩
  go_wp2_with fail
  go_ret
  exact ⟨rfl, hb⟩
end Go.Proofs.Ytdkcpjlcpfkehac
