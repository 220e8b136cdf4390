/- The walk of gover.Parse, second part: the word of the stage and its number. -/
import Derived.Test.YtdkcpjlcpfkehabParse
namespace Go.Proofs.Ytdkcpjlcpfkehab
open Go.RowKit Plain

/-- What the loop over the word needs of the rest R: K small letters in front. -/
structure Word3 (R : List UInt8) (K : Nat) : Prop where
  le : K ≤ R.length
  low : ∀ k (h : k < R.length), k < K → 97 ≤ (R[k].toNat : Int) ∧ (R[k].toNat : Int) ≤ 122
  stop : ∀ (h : K < R.length), ¬ (97 ≤ R[K].toNat ∧ R[K].toNat ≤ 122)

theorem word3 (R : List UInt8) : Word3 R (lows R) := by
  refine ⟨lows_le R, fun k h hk => ?_, fun h => ?_⟩
  · have := (isLow_iff _).1 ((lows_lt R k h (by omega)).2 hk)
    omega
  · have := lows_lt R (lows R) h (Nat.le_refl _)
    rw [isLow_iff] at this
    omega

set_option maxRecDepth 100000 in
set_option maxHeartbeats 2000000 in
theorem gParse_tail_bad (l a r b R : List UInt8) (K : Nat) (w : World) (hl : l.length ≤ 140737488351232) (h : cut l = some (a, 46 :: r)) (h2 : cut r = some (b, R)) (hR : 0 < R.length) (hc : R[0] ≠ 46)
    (h3 : Word3 R K) (hK : K < R.length) (hd : isDig R[K] = false) :
    Calls Try.prog 18 #[.string (mk l)] w fun e w' => e = .returned (verV zeroVer) ∧ Below w.heap.size w w' := by
  have H := Lib.hid h
  have H2 := Lib.hid h2
  have H3 := Lib.hid h3
  have hr : r.length ≤ 140737488351232 := by have := cut_len h; simp at this; omega
  have hRl : R.length ≤ 140737488351232 := by have := cut_len h2; omega
  have hb : ((R[0].toNat : Int) == 46) = false := by
    rw [beq_eq_false_iff_ne]
    intro e
    exact hc (UInt8.toNat_inj.1 (by simp; omega))
  have hE : R.isEmpty = false := by cases R with | nil => simp at hR | cons => rfl
  have HX : Hid ((R[K].toNat : Int) < 48 ∨ (57 < (R[K].toNat : Int) ∧ (R[K].toNat : Int) < 97) ∨ (97 ≤ (R[K].toNat : Int) ∧ 122 < (R[K].toNat : Int))) := by
    rw [isDig_false] at hd
    have := h3.stop hK
    show _ ∨ _
    omega
  clear h h2 h3 hc hd
  go_enter Try.func18, Try.ntmps18
  go_wp2_with fail
  refine (gcutL_yes l a (46 :: r) _ hl H.out).mono ?_
  rintro e w' ⟨rfl, n1, rfl⟩
  go_wp2_with fail
  refine (gcutL_yes r b R _ hr H2.out).mono ?_
  rintro e w' ⟨rfl, n2, rfl⟩
  go_wp2_with fail
  go_loop [5] (fun i => ∃ k : Nat, k ≤ K ∧ i = .int .i64 k) (fun i => R.length - (intOf i).toNat)
  case atStart => exact ⟨0, Nat.zero_le _, rfl⟩
  case round =>
    obtain ⟨k, hk, rfl⟩ := hrel
    by_cases hlt : k < K
    · have hls : k < R.length := by omega
      obtain ⟨g1, g2⟩ := H3.out.low k hls hlt
      have g3 : 57 < (R[k].toNat : Int) := by omega
      go_wp2
      go_round
      case rel => exact ⟨k + 1, by omega, by go_num⟩
      case measure => simp [intOf]; omega
    · obtain rfl : k = K := by omega
      clear hlt hk
      rcases HX.out with g1 | ⟨g1, g2⟩ | ⟨g1, g2⟩
      · have g2 : (R[k].toNat : Int) < 97 := by omega
        clear HX
        go_wp2
        go_returns
        exact ⟨rfl, drewN_below (by go_grown) _⟩
      · clear HX
        go_wp2
        go_returns
        exact ⟨rfl, drewN_below (by go_grown) _⟩
      · have g3 : 57 < (R[k].toNat : Int) := by omega
        clear HX
        go_wp2
        go_returns
        exact ⟨rfl, drewN_below (by go_grown) _⟩
end Go.Proofs.Ytdkcpjlcpfkehab
