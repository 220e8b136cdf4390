/- The walk of gover.cutInt: the number in front of a text and the rest, or nothing. -/
import Derived.Test.YtdkcpjlcpfkehaaBase
import Derived.Deep.QuietTactic
import Derived.BigQuiet
import Derived.RegionTactic
import Derived.ChangeAlike
namespace Go.Proofs.Ytdkcpjlcpfkehaa
open Go.RowKit Plain

theorem dig_get {s : ByteArray} {k : Nat} (h : k < s.size) (hk : k ≤ digs s.data.toList) : (48 ≤ s[k].toNat ∧ s[k].toNat ≤ 57) ↔ k < digs s.data.toList := by
  have hl : k < s.data.toList.length := by have := size_len s; omega
  rw [get_data s k h hl, ← isDig_iff]
  exact digs_lt _ _ hl hk

theorem exit_ways {s : ByteArray} {D : Nat} (HG : ∀ (k : Nat) (h : k < s.size), k ≤ D → ((48 ≤ s[k].toNat ∧ s[k].toNat ≤ 57) ↔ k < D)) :
    ¬ D < s.size ∨ ∃ h : D < s.size, (s[D].toNat : Int) < 48 ∨ 48 ≤ (s[D].toNat : Int) ∧ 57 < (s[D].toNat : Int) := by
  by_cases h : D < s.size
  · right
    refine ⟨h, ?_⟩
    have := HG D h (Nat.le_refl _)
    omega
  · exact Or.inl h

set_option maxHeartbeats 1000000 in
theorem gcutInt_no (s : ByteArray) (w : World) (hs : s.size ≤ 140737488351232) (h : cutOk s.data.toList = false) :
    Calls Try.prog 30 #[.string s] w fun e w' => e = .returned (.tuple #[.string ByteArray.empty, .string ByteArray.empty, .bool false]) ∧ w = w' := by
  have hl := digs_le s.data.toList
  have hz := size_len s
  obtain ⟨D, hD⟩ : ∃ D, digs s.data.toList = D := ⟨_, rfl⟩
  have HG : Hid (∀ (k : Nat) (h : k < s.size), k ≤ D → ((48 ≤ s[k].toNat ∧ s[k].toNat ≤ 57) ↔ k < D)) := fun k h hk => by
    rw [← hD] at hk ⊢
    exact dig_get h hk
  have hDs : D ≤ s.size := by omega
  have HC : Hid (D = 0 ∨ ∃ h0 : 0 < s.size, D ≠ 0 ∧ D ≠ 1 ∧ s[0].toNat = 48) := by
    by_cases h0 : D = 0
    · exact Or.inl h0
    · right
      refine ⟨by omega, h0, ?_⟩
      have hpos : 0 < s.data.toList.length := by omega
      rw [get_data s 0 (by omega) hpos]
      simp only [cutOk, hD, Bool.and_eq_false_iff, Bool.or_eq_false_iff, bne_eq_false_iff_eq, beq_eq_false_iff_ne] at h
      rcases h with h | ⟨h1, h2⟩
      · exact absurd h h0
      · refine ⟨h1, ?_⟩
        rw [List.headD_eq_head?_getD, List.head?_eq_getElem?, List.getElem?_eq_getElem hpos] at h2
        simp only [Option.getD_some] at h2
        rw [h2]
        rfl
  clear hl hz hD h
  go_enter Try.func30, Try.ntmps30
  go_wp2
  go_loop [5] (fun i => ∃ k : Nat, k ≤ D ∧ i = .int .i64 k) (fun i => s.size - (intOf i).toNat)
  case atStart => exact ⟨0, Nat.zero_le _, rfl⟩
  case round =>
    obtain ⟨k, hk, rfl⟩ := hrel
    by_cases hlt : k < D
    · have hls : k < s.size := by omega
      have h1 : 48 ≤ (s[k].toNat : Int) := by have := ((HG.out k hls hk).2 hlt).1; omega
      have h2 : (s[k].toNat : Int) ≤ 57 := by have := ((HG.out k hls hk).2 hlt).2; omega
      go_wp2
      go_round
      case rel => exact ⟨k + 1, by omega, by go_num⟩
      case measure => simp [intOf]; omega
    · obtain rfl : k = D := by omega
      have HX := Lib.hid (exit_ways HG.out)
      clear HG hlt hk
      rcases HC.out with h0 | ⟨h0, h1, h2, h3⟩
      · subst h0
        clear HC
        rcases HX.out with hx | ⟨hx, hx1 | ⟨hx1, hx2⟩⟩
        all_goals
          clear HX
          go_wp2
          go_ret3
          exact ⟨rfl, rfl⟩
      · have b1 : ((k : Int) == 0) = false := by simp; omega
        have b2 : ((k : Int) != 1) = true := by simp; omega
        have b3 : ((s[0].toNat : Int) == 48) = true := by simp; omega
        clear HC h1 h2 h3
        rcases HX.out with hx | ⟨hx, hx1 | ⟨hx1, hx2⟩⟩
        all_goals
          clear HX
          go_wp2
          go_ret3
          exact ⟨rfl, rfl⟩

/-- The world after some draws. -/
def Drawn (w w' : World) : Prop := ∃ n, w' = w.drewN n
theorem Drawn.refl (w : World) : Drawn w w := ⟨0, rfl⟩
theorem Drawn.more {w w' : World} (h : Drawn w w') {n : Nat} : Drawn w (w'.drewN n) := by
  obtain ⟨m, rfl⟩ := h
  exact ⟨m + n, by rw [World.drewN_drewN]⟩
theorem Drawn.trans {a b c : World} (h : Drawn a b) (k : Drawn b c) : Drawn a c := by
  obtain ⟨n, rfl⟩ := k
  exact h.more
theorem Drawn.below {w w' : World} (h : Drawn w w') (B : Nat) : Below B w w' := by
  obtain ⟨n, rfl⟩ := h
  exact ⟨rfl, rfl, rfl, Nat.le_refl _, fun _ _ => rfl⟩

set_option maxHeartbeats 1000000 in
theorem gcutInt_yes (s : ByteArray) (w : World) (hs : s.size ≤ 140737488351232) (h : cutOk s.data.toList = true) :
    Calls Try.prog 30 #[.string s] w fun e w' => e = .returned (.tuple #[.string (mk (s.data.toList.take (digs s.data.toList))), .string (mk (s.data.toList.drop (digs s.data.toList))), .bool true]) ∧ Drawn w w' := by
  have hl := digs_le s.data.toList
  have hz := size_len s
  have ht := mk_eq (extract_take s (digs s.data.toList))
  have hd := mk_eq (extract_drop s (digs s.data.toList))
  rw [← ht, ← hd]
  clear ht hd
  obtain ⟨D, hD⟩ : ∃ D, digs s.data.toList = D := ⟨_, rfl⟩
  have HG : Hid (∀ (k : Nat) (h : k < s.size), k ≤ D → ((48 ≤ s[k].toNat ∧ s[k].toNat ≤ 57) ↔ k < D)) := fun k h hk => by
    rw [← hD] at hk ⊢
    exact dig_get h hk
  have hDs : D ≤ s.size := by omega
  have h0 : 0 < D := by
    simp only [cutOk, hD, Bool.and_eq_true, bne_iff_ne] at h
    have := h.1
    omega
  have HC : Hid (D = 1 ∨ ∃ h0 : 0 < s.size, s[0].toNat ≠ 48) := by
    by_cases h1 : D = 1
    · exact Or.inl h1
    · right
      refine ⟨by omega, ?_⟩
      have hpos : 0 < s.data.toList.length := by omega
      rw [get_data s 0 (by omega) hpos]
      simp only [cutOk, hD, Bool.and_eq_true, Bool.or_eq_true, bne_iff_ne, beq_iff_eq] at h
      rcases h.2 with h2 | h2
      · exact absurd h2 h1
      · intro e
        apply h2
        rw [List.headD_eq_head?_getD, List.head?_eq_getElem?, List.getElem?_eq_getElem hpos]
        simp only [Option.getD_some]
        exact UInt8.toNat_inj.1 e
  rw [hD]
  clear hl hz hD h
  go_enter Try.func30, Try.ntmps30
  go_wp2
  go_loop [5] (fun i => ∃ k : Nat, k ≤ D ∧ i = .int .i64 k) (fun i => s.size - (intOf i).toNat)
  case atStart => exact ⟨0, Nat.zero_le _, rfl⟩
  case round =>
    obtain ⟨k, hk, rfl⟩ := hrel
    by_cases hlt : k < D
    · have hls : k < s.size := by omega
      have h1 : 48 ≤ (s[k].toNat : Int) := by have := ((HG.out k hls hk).2 hlt).1; omega
      have h2 : (s[k].toNat : Int) ≤ 57 := by have := ((HG.out k hls hk).2 hlt).2; omega
      go_wp2
      go_round
      case rel => exact ⟨k + 1, by omega, by go_num⟩
      case measure => simp [intOf]; omega
    · obtain rfl : k = D := by omega
      have HX := Lib.hid (exit_ways HG.out)
      clear HG hlt hk
      have b1 : ((k : Int) == 0) = false := by simp; omega
      rcases HC.out with h1 | ⟨h1, h3⟩
      · subst h1
        clear HC
        by_cases b3 : (s[0].toNat : Int) == 48
        all_goals
          rcases HX.out with hx | ⟨hx, hx1 | ⟨hx1, hx2⟩⟩
          all_goals
            clear HX
            go_wp2
            go_quiet (fail)
            go_wp2
            go_ret3
            exact ⟨rfl, _, rfl⟩
      · have b3 : ((s[0].toNat : Int) == 48) = false := by simp; omega
        clear HC h3
        rcases HX.out with hx | ⟨hx, hx1 | ⟨hx1, hx2⟩⟩
        all_goals
          clear HX
          go_wp2
          go_quiet (fail)
          go_wp2
          go_ret3
          exact ⟨rfl, _, rfl⟩
end Go.Proofs.Ytdkcpjlcpfkehaa
