/- The walk of the reference's Digits. -/
import Derived.Test.YtdkcpjlcpfkehabCut
namespace Go.Proofs.Ytdkcpjlcpfkehab
open Go.RowKit Plain

/-- One decimal digit, or more without a zero in front: as the reference asks it. -/
def numB (l : List UInt8) : Bool := allDig l && (l.length == 1 || (decide (1 < l.length) && l.headD 0 != 48))

theorem numB_iff (l : List UInt8) : numB l = true ↔ Num l := by
  unfold numB Num
  simp only [Bool.and_eq_true, Bool.or_eq_true, beq_iff_eq, decide_eq_true_eq, bne_iff_ne]
  cases l with
  | nil => simp
  | cons c r =>
    simp only [List.headD_cons, List.head?_cons, Option.some.injEq, List.length_cons, ne_eq, reduceCtorEq, not_false_eq_true, true_and]
    constructor
    · rintro ⟨h1, h2⟩
      refine ⟨h1, fun e => ?_⟩
      rcases h2 with h2 | ⟨_, h2⟩
      · exact h2
      · exact absurd e h2
    · rintro ⟨h1, h2⟩
      refine ⟨h1, ?_⟩
      by_cases e : c = 48
      · exact Or.inl (h2 e)
      · by_cases hr : r.length = 0
        · left; omega
        · right; exact ⟨by omega, e⟩

theorem numB_false {l : List UInt8} (h : ¬ Num l) : numB l = false := by
  cases hb : numB l
  · rfl
  · exact absurd ((numB_iff l).1 hb) h

theorem digs_all_iff (l : List UInt8) : allDig l = true ↔ digs l = l.length := by
  constructor
  · exact digs_all l
  · intro h
    have := allDig_take l
    rw [h, List.take_length] at this
    exact this

theorem get0 {s : ByteArray} (h : 0 < s.size) : s[0]'h = s.data.toList.headD 0 := by
  have hl : 0 < s.data.toList.length := by have := size_len s; omega
  rw [get_data s 0 h hl, List.headD_eq_head?_getD, List.head?_eq_getElem?, List.getElem?_eq_getElem hl]
  rfl

set_option maxHeartbeats 1000000 in
theorem sDigits_yes (s : ByteArray) (w : World) (hs : s.size ≤ 140737488351232) (h : Num s.data.toList) :
    Calls Try.prog 11 #[.string s] w fun e w' => e = .returned (.bool true) ∧ w = w' := by
  have hz := size_len s
  have hD := digs_all _ h.1
  have HG : Hid (∀ (k : Nat) (h : k < s.size), 48 ≤ s[k].toNat ∧ s[k].toNat ≤ 57) := fun k hk => by
    have := dig_get hk (by omega)
    exact this.2 (by omega)
  have hpos : 0 < s.size := by rw [hz]; exact len_pos h.2.1
  have HC : Hid (s.size = 1 ∨ 1 < s.size ∧ s[0].toNat ≠ 48) := by
    by_cases h1 : s.size = 1
    · exact Or.inl h1
    · right
      refine ⟨by omega, fun e => h1 ?_⟩
      rw [hz]
      apply h.2.2
      have := get0 hpos
      have hh : s.data.toList.headD 0 = 48 := by rw [← this]; exact UInt8.toNat_inj.1 e
      cases hc : s.data.toList with
      | nil => have := len_pos h.2.1; rw [hc] at this; simp at this
      | cons c r => rw [hc] at hh; simp at hh; simp [hh]
  clear hz hD h
  go_enter Try.func11, Try.ntmps11
  go_wp2
  go_loop [3] (fun i => ∃ k : Nat, k ≤ s.size ∧ i = .int .i64 k) (fun i => s.size - (intOf i).toNat)
  case atStart => exact ⟨0, Nat.zero_le _, rfl⟩
  case round =>
    obtain ⟨k, hk, rfl⟩ := hrel
    by_cases hlt : k < s.size
    · have h1 : 48 ≤ (s[k].toNat : Int) := by have := (HG.out k hlt).1; omega
      have h2 : (s[k].toNat : Int) ≤ 57 := by have := (HG.out k hlt).2; omega
      go_wp2
      go_round
      case rel => exact ⟨k + 1, by omega, by go_num⟩
      case measure => simp [intOf]; omega
    · rcases HC.out with h1 | ⟨h1, h2⟩
      · have b1 : ((s.size : Int) == 1) = true := by simp; omega
        clear h1 HC HG
        go_wp2
        go_ret
        exact ⟨rfl, rfl⟩
      · have b1 : ((s.size : Int) == 1) = false := by simp; omega
        have b2 : ((s[0].toNat : Int) != 48) = true := by simp; omega
        clear h2 HC HG
        go_wp2
        go_ret
        exact ⟨rfl, rfl⟩

set_option maxHeartbeats 1000000 in
theorem sDigits_no (s : ByteArray) (w : World) (hs : s.size ≤ 140737488351232) (h : ¬ Num s.data.toList) :
    Calls Try.prog 11 #[.string s] w fun e w' => e = .returned (.bool false) ∧ w = w' := by
  have hz := size_len s
  have hl := digs_le s.data.toList
  obtain ⟨D, hD⟩ : ∃ D, digs s.data.toList = D := ⟨_, rfl⟩
  have HG : Hid (∀ (k : Nat) (h : k < s.size), k ≤ D → ((48 ≤ s[k].toNat ∧ s[k].toNat ≤ 57) ↔ k < D)) := fun k h hk => by
    rw [← hD] at hk ⊢
    exact dig_get h hk
  have hDs : D ≤ s.size := by omega
  have HC : Hid (D < s.size ∨ s.size = 0 ∨ ∃ h1 : 1 < s.size, (s[0]'(Nat.lt_trans Nat.zero_lt_one h1)).toNat = 48) := by
    by_cases h1 : D < s.size
    · exact Or.inl h1
    · right
      by_cases h0 : s.size = 0
      · exact Or.inl h0
      · right
        have ha : allDig s.data.toList = true := (digs_all_iff _).2 (by omega)
        have hne : s.data.toList ≠ [] := fun e => h0 (by rw [hz, e]; rfl)
        by_cases hh : s.data.toList.head? = some 48 ∧ s.data.toList.length ≠ 1
        · have h2 : 1 < s.size := by omega
          refine ⟨h2, ?_⟩
          have h3 := get0 (s := s) (by omega)
          rw [h3, List.headD_eq_head?_getD, hh.1]
          rfl
        · exact absurd ⟨ha, hne, fun e => Classical.byContradiction fun e2 => hh ⟨e, e2⟩⟩ h
  clear hl hD h hz
  go_enter Try.func11, Try.ntmps11
  go_wp2
  go_loop [3] (fun i => ∃ k : Nat, k ≤ D ∧ i = .int .i64 k) (fun i => s.size - (intOf i).toNat)
  case atStart => exact ⟨0, Nat.zero_le _, rfl⟩
  case round =>
    obtain ⟨k, hk, rfl⟩ := hrel
    by_cases hlt : k < D
    · have hls : k < s.size := by omega
      have h1 : 48 ≤ (s[k].toNat : Int) := by have := ((HG.out k hls hk).2 hlt).1; omega
      have h2 : (s[k].toNat : Int) ≤ 57 := by have := ((HG.out k hls hk).2 hlt).2; omega
      go_wp2
      go_round
      case rel => exact ⟨k + 1, by omega, by go_num⟩
      case measure => simp [intOf]; omega
    · obtain rfl : k = D := by omega
      have HX := Lib.hid (exit_ways HG.out)
      clear HG hlt hk
      rcases HX.out with hx | ⟨hx, hx1 | ⟨hx1, hx2⟩⟩
      · rcases HC.out with h1 | h1 | ⟨h1, h2⟩
        · exact absurd h1 hx
        · have b1 : ((s.size : Int) == 1) = false := by simp; omega
          have b2 : ¬ 1 < s.size := by omega
          clear h1 HC HX
          go_wp2
          go_ret
          exact ⟨rfl, rfl⟩
        · have b1 : ((s.size : Int) == 1) = false := by simp; omega
          have b2 : ((s[0].toNat : Int) != 48) = false := by simp; omega
          clear h2 HC HX
          go_wp2
          go_ret
          exact ⟨rfl, rfl⟩
      all_goals
        clear HC HX
        go_wp2
        go_ret
        exact ⟨rfl, rfl⟩

end Go.Proofs.Ytdkcpjlcpfkehab
