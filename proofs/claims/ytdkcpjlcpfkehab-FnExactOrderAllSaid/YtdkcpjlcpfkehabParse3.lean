/- The walk of gover.Parse, third part: the word of the stage to the text's end, or before a number. -/
import Derived.Test.YtdkcpjlcpfkehabParse2
import Derived.BigRegion
namespace Go.Proofs.Ytdkcpjlcpfkehab
open Go.RowKit Plain

set_option maxRecDepth 100000 in
set_option maxHeartbeats 2000000 in
theorem gParse_kind (l a r b R : List UInt8) (w : World) (hl : l.length ≤ 140737488351232) (h : cut l = some (a, 46 :: r)) (h2 : cut r = some (b, R)) (hR : 0 < R.length) (hc : R[0] ≠ 46)
    (h3 : Word3 R R.length) :
    Calls Try.prog 18 #[.string (mk l)] w fun e w' => e = .returned (verV ⟨a, b, [], R, []⟩) ∧ Below w.heap.size w w' := by
  have H := Lib.hid h
  have H2 := Lib.hid h2
  have H3 := Lib.hid h3
  have hr : r.length ≤ 140737488351232 := by have := cut_len h; simp at this; omega
  have hRl : R.length ≤ 140737488351232 := by have := cut_len h2; omega
  have hb : ((R[0].toNat : Int) == 46) = false := by
    rw [beq_eq_false_iff_ne]
    intro e
    exact hc (UInt8.toNat_inj.1 (by simp; omega))
  have hE : R.isEmpty = false := by cases R with | nil => simp at hR | cons => rfl
  clear h h2 h3 hc
  go_enter Try.func18, Try.ntmps18
  go_wp2_with fail
  refine (gcutL_yes l a (46 :: r) _ hl H.out).mono ?_
  rintro e w' ⟨rfl, n1, rfl⟩
  go_wp2_with fail
  refine (gcutL_yes r b R _ hr H2.out).mono ?_
  rintro e w' ⟨rfl, n2, rfl⟩
  go_wp2_with fail
  go_loop [5] (fun i => ∃ k : Nat, k ≤ R.length ∧ i = .int .i64 k) (fun i => R.length - (intOf i).toNat)
  case atStart => exact ⟨0, Nat.zero_le _, rfl⟩
  case round =>
    obtain ⟨k, hk, rfl⟩ := hrel
    by_cases hlt : k < R.length
    · obtain ⟨g1, g2⟩ := H3.out.low k hlt hlt
      have g3 : 57 < (R[k].toNat : Int) := by omega
      go_wp2
      go_round
      case rel => exact ⟨k + 1, by omega, by go_num⟩
      case measure => simp [intOf]; omega
    · obtain rfl : k = R.length := by omega
      have hk0 : ((R.length : Int) == 0) = false := by rw [beq_eq_false_iff_ne]; omega
      clear hk
      go_wp2
      go_region
      go_wp2
      go_returns
      exact ⟨rfl, drewN_below (by go_grown) _⟩

/-- What a run comes to when the word is followed by a digit: C says what is cut off behind it. -/
def preOf (a b R : List UInt8) (K : Nat) (C : Option (List UInt8 × List UInt8)) : Ver :=
  match C with
  | some (q, []) => ⟨a, b, [], R.take K, q⟩
  | _ => zeroVer

set_option maxRecDepth 100000 in
set_option maxHeartbeats 4000000 in
theorem gParse_pre (l a r b R : List UInt8) (K : Nat) (w : World) (hl : l.length ≤ 140737488351232) (h : cut l = some (a, 46 :: r)) (h2 : cut r = some (b, R)) (hR : 0 < R.length) (hc : R[0] ≠ 46)
    (h3 : Word3 R K) (hK : K < R.length) (hK0 : 0 < K) (hd : isDig R[K] = true) :
    Calls Try.prog 18 #[.string (mk l)] w fun e w' => e = .returned (verV (preOf a b R K (cut (R.drop K)))) ∧ Below w.heap.size w w' := by
  have H := Lib.hid h
  have H2 := Lib.hid h2
  have H3 := Lib.hid h3
  have hr : r.length ≤ 140737488351232 := by have := cut_len h; simp at this; omega
  have hRl : R.length ≤ 140737488351232 := by have := cut_len h2; omega
  have hT : (R.drop K).length ≤ 140737488351232 := by rw [List.length_drop]; omega
  have hb : ((R[0].toNat : Int) == 46) = false := by
    rw [beq_eq_false_iff_ne]
    intro e
    exact hc (UInt8.toNat_inj.1 (by simp; omega))
  have hE : R.isEmpty = false := by cases R with | nil => simp at hR | cons => rfl
  have g1 : 48 ≤ (R[K].toNat : Int) := by have := (isDig_iff _).1 hd; omega
  have g2 : (R[K].toNat : Int) ≤ 57 := by have := (isDig_iff _).1 hd; omega
  have hk0 : ((K : Int) == 0) = false := by rw [beq_eq_false_iff_ne]; omega
  have hDE : (List.drop K R).isEmpty = false := by
    cases hD : List.drop K R with
    | nil => have := congrArg List.length hD; simp at this; omega
    | cons => rfl
  obtain ⟨C, hC⟩ : ∃ C, cut (R.drop K) = C := ⟨_, rfl⟩
  rw [hC]
  have HC := Lib.hid hC
  clear h h2 h3 hc hd hC
  rcases C with _ | ⟨q, t⟩
  · show Calls Try.prog 18 #[.string (mk l)] w fun e w' => e = .returned (verV zeroVer) ∧ Below w.heap.size w w'
    go_enter Try.func18, Try.ntmps18
    go_wp2_with fail
    refine (gcutL_yes l a (46 :: r) _ hl H.out).mono ?_
    rintro e w' ⟨rfl, n1, rfl⟩
    go_wp2_with fail
    refine (gcutL_yes r b R _ hr H2.out).mono ?_
    rintro e w' ⟨rfl, n2, rfl⟩
    go_wp2_with fail
    go_loop [5] (fun i => ∃ k : Nat, k ≤ K ∧ i = .int .i64 k) (fun i => R.length - (intOf i).toNat)
    case atStart => exact ⟨0, Nat.zero_le _, rfl⟩
    case round =>
      obtain ⟨k, hk, rfl⟩ := hrel
      by_cases hlt : k < K
      · have hls : k < R.length := by omega
        obtain ⟨f1, f2⟩ := H3.out.low k hls hlt
        have f3 : 57 < (R[k].toNat : Int) := by omega
        go_wp2
        go_round
        case rel => exact ⟨k + 1, by omega, by go_num⟩
        case measure => simp [intOf]; omega
      · obtain rfl : k = K := by omega
        clear hlt hk
        go_wp2
        go_region
        go_wp2_with fail
        refine (gcutL_no _ _ hT HC.out).mono ?_
        rintro e w' ⟨rfl, rfl⟩
        go_wp2_with fail
        go_returns
        exact ⟨rfl, drewN_below (by go_grown) _⟩
  · rcases t with _ | ⟨c, t⟩
    · show Calls Try.prog 18 #[.string (mk l)] w fun e w' => e = .returned (verV ⟨a, b, [], R.take K, q⟩) ∧ Below w.heap.size w w'
      go_enter Try.func18, Try.ntmps18
      go_wp2_with fail
      refine (gcutL_yes l a (46 :: r) _ hl H.out).mono ?_
      rintro e w' ⟨rfl, n1, rfl⟩
      go_wp2_with fail
      refine (gcutL_yes r b R _ hr H2.out).mono ?_
      rintro e w' ⟨rfl, n2, rfl⟩
      go_wp2_with fail
      go_loop [5] (fun i => ∃ k : Nat, k ≤ K ∧ i = .int .i64 k) (fun i => R.length - (intOf i).toNat)
      case atStart => exact ⟨0, Nat.zero_le _, rfl⟩
      case round =>
        obtain ⟨k, hk, rfl⟩ := hrel
        by_cases hlt : k < K
        · have hls : k < R.length := by omega
          obtain ⟨f1, f2⟩ := H3.out.low k hls hlt
          have f3 : 57 < (R[k].toNat : Int) := by omega
          go_wp2
          go_round
          case rel => exact ⟨k + 1, by omega, by go_num⟩
          case measure => simp [intOf]; omega
        · obtain rfl : k = K := by omega
          clear hlt hk
          go_wp2
          go_region
          go_wp2_with fail
          refine (gcutL_yes _ q [] _ hT HC.out).mono ?_
          rintro e w' ⟨rfl, n3, rfl⟩
          go_wp2_with fail
          go_returns
          exact ⟨rfl, drewN_below (by go_grown) _⟩
    · show Calls Try.prog 18 #[.string (mk l)] w fun e w' => e = .returned (verV zeroVer) ∧ Below w.heap.size w w'
      go_enter Try.func18, Try.ntmps18
      go_wp2_with fail
      refine (gcutL_yes l a (46 :: r) _ hl H.out).mono ?_
      rintro e w' ⟨rfl, n1, rfl⟩
      go_wp2_with fail
      refine (gcutL_yes r b R _ hr H2.out).mono ?_
      rintro e w' ⟨rfl, n2, rfl⟩
      go_wp2_with fail
      go_loop [5] (fun i => ∃ k : Nat, k ≤ K ∧ i = .int .i64 k) (fun i => R.length - (intOf i).toNat)
      case atStart => exact ⟨0, Nat.zero_le _, rfl⟩
      case round =>
        obtain ⟨k, hk, rfl⟩ := hrel
        by_cases hlt : k < K
        · have hls : k < R.length := by omega
          obtain ⟨f1, f2⟩ := H3.out.low k hls hlt
          have f3 : 57 < (R[k].toNat : Int) := by omega
          go_wp2
          go_round
          case rel => exact ⟨k + 1, by omega, by go_num⟩
          case measure => simp [intOf]; omega
        · obtain rfl : k = K := by omega
          clear hlt hk
          go_wp2
          go_region
          go_wp2_with fail
          refine (gcutL_yes _ q (c :: t) _ hT HC.out).mono ?_
          rintro e w' ⟨rfl, n3, rfl⟩
          go_wp2_with fail
          go_returns
          exact ⟨rfl, drewN_below (by go_grown) _⟩
end Go.Proofs.Ytdkcpjlcpfkehab
