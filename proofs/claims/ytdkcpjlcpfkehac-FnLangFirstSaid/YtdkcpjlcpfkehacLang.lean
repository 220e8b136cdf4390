/- The walks of gover.Lang and impl.Lang. -/
import Derived.Test.YtdkcpjlcpfkehacIs
namespace Go.Proofs.Ytdkcpjlcpfkehac
open Go.RowKit Plain

theorem langX_len (l : List UInt8) : (langX l).length ≤ 2 * l.length + 3 := by
  have h := parse_len l
  unfold langX langV
  split
  · omega
  · simp; omega

set_option maxRecDepth 100000 in
set_option maxHeartbeats 1000000 in
theorem gLang (l : List UInt8) (w : World) (hl : l.length ≤ 140737488351232) :
    Calls Try.prog 24 #[.string (mk l)] w fun e w' => e = .returned (.string (mk (langX l))) ∧ Below w.heap.size w w' := by
  have HP := Lib.hid (gParse l)
  have hlen := parse_len l
  obtain ⟨⟨m, i, p, k, q⟩, hv⟩ : ∃ v, parse l = v := ⟨_, rfl⟩
  rw [hv] at HP hlen
  simp only [] at hlen
  have hm : m.length ≤ 140737488351233 := by omega
  have hi : i.length ≤ 140737488351233 := by omega
  have HV : Hid (langX l = langV ⟨m, i, p, k, q⟩) := by show _ = _; unfold langX; rw [hv]
  clear hlen hv
  unfold verV at HP
  simp only [] at HP
  by_cases h1 : i = []
  · have HL : Hid (langX l = m) := by show _ = _; rw [HV.out]; unfold langV; rw [if_pos (Or.inl h1)]
    subst h1
    clear HV
    generalize langX l = R at *
    go_enter Try.func24, Try.ntmps24
    go_wp2_with fail
    refine (HP.out _ hl).mono ?_
    rintro e w1 ⟨rfl, hbl⟩
    go_wp2_with fail
    go_ret
    exact ⟨ret_str (by rw [HL.out]), hbl.alloc hbl.size _⟩
  · have hi' : i.isEmpty = false := by cases i with | nil => exact absurd rfl h1 | cons => rfl
    by_cases h2 : m = [49]
    · by_cases h3 : i = [48]
      · have HL : Hid (langX l = m) := by show _ = _; rw [HV.out]; unfold langV; rw [if_pos (Or.inr ⟨h2, h3⟩)]
        have b2 : (m == [49]) = true := by simpa using h2
        have b3 : (i == [48]) = true := by simpa using h3
        clear HV h1 h2 h3
        generalize langX l = R at *
        go_enter Try.func24, Try.ntmps24
        go_wp2_with fail
        refine (HP.out _ hl).mono ?_
        rintro e w1 ⟨rfl, hbl⟩
        go_wp2_with fail
        go_ret
        exact ⟨ret_str (by rw [HL.out]), hbl.alloc hbl.size _⟩
      · have HL : Hid (langX l = m ++ 46 :: i) := by
          show _ = _
          rw [HV.out]
          unfold langV
          rw [if_neg (fun e => by rcases e with e | e; exact h1 e; exact h3 e.2)]
        have b2 : (m == [49]) = true := by simpa using h2
        have b3 : (i == [48]) = false := by simpa using h3
        clear HV h1 h2 h3
        generalize langX l = R at *
        go_enter Try.func24, Try.ntmps24
        go_wp2_with fail
        refine (HP.out _ hl).mono ?_
        rintro e w1 ⟨rfl, hbl⟩
        go_wp2_with fail
        go_ret
        exact ⟨ret_str (by rw [HL.out]), hbl.alloc hbl.size _⟩
    · have HL : Hid (langX l = m ++ 46 :: i) := by
        show _ = _
        rw [HV.out]
        unfold langV
        rw [if_neg (fun e => by rcases e with e | e; exact h1 e; exact h2 e.1)]
      have b2 : (m == [49]) = false := by simpa using h2
      clear HV h1 h2
      generalize langX l = R at *
      go_enter Try.func24, Try.ntmps24
      go_wp2_with fail
      refine (HP.out _ hl).mono ?_
      rintro e w1 ⟨rfl, hbl⟩
      go_wp2_with fail
      go_ret
      exact ⟨ret_str (by rw [HL.out]), hbl.alloc hbl.size _⟩

theorem iLang (l : List UInt8) (w : World) (hl : l.length ≤ 140737488351232) :
    Calls Try.prog 17 #[.string (mk l)] w fun e w' => e = .returned (.string (mk (langX l))) ∧ Below w.heap.size w w' := by
  have H := Lib.hid (gLang l)
  generalize langX l = R at *
  go_enter Try.func17, Try.ntmps17
  go_wp2_with fail
  refine (H.out _ hl).mono ?_
  rintro e w' ⟨rfl, hb⟩
  go_wp2_with fail
  go_ret
  exact ⟨rfl, hb⟩
end Go.Proofs.Ytdkcpjlcpfkehac
