/- The walk of the reference's Order of two releases. -/
import Derived.Test.YtdkcpjlcpfkehabOrd
import Derived.Test.YtdkcpjlcpfkehabRel
namespace Go.Proofs.Ytdkcpjlcpfkehab
open Go.RowKit Plain

set_option maxRecDepth 100000 in
set_option maxHeartbeats 4000000 in
theorem sOrder (a b s n a' b' s' n' : Nat) (w : World) (hs : s < 256) (hs' : s' < 256) :
    Calls Try.prog 17 #[.agg #[.int .u32 a, .int .u32 b, .int .u8 s, .int .u32 n], .agg #[.int .u32 a', .int .u32 b', .int .u8 s', .int .u32 n']] w fun e w' => e = .returned (.int .i64 (orderOf a b s n a' b' s' n')) ∧ Below w.heap.size w w' := by
  have HC1 := Lib.hid (sorder a a')
  have HC2 := Lib.hid (sorder b b')
  have HC4 := Lib.hid (sorder n n')
  have HV : Hid (orderOf a b s n a' b' s' n' = lexc (ord a a') (lexc (ord b b') (if ord (s % 5) (s' % 5) ≠ 0 ∨ s % 5 = 0 then ord (s % 5) (s' % 5) else ord n n'))) := rfl
  generalize orderOf a b s n a' b' s' n' = R at *
  obtain ⟨r, hr⟩ : ∃ r, s % 5 = r := ⟨_, rfl⟩
  obtain ⟨r', hr'⟩ : ∃ r', s' % 5 = r' := ⟨_, rfl⟩
  rw [hr, hr'] at HV
  have er : (s : Int) % 5 = (r : Int) := by omega
  have er' : (s' : Int) % 5 = (r' : Int) := by omega
  have hr5 : r < 5 := by omega
  have hr5' : r' < 5 := by omega
  have HC3 := Lib.hid (sorder r r')
  clear hr hr'
  generalize ord a a' = c1 at *
  generalize ord b b' = c2 at *
  generalize ord r r' = c3 at *
  generalize ord n n' = c4 at *
  go_enter Try.func17, Try.ntmps17
  go_wp2_with fail
  refine (HC1.out _).mono ?_
  rintro e w3 ⟨rfl, rfl⟩
  by_cases h1 : c1 = 0
  · subst h1
    go_wp2_with fail
    refine (HC2.out _).mono ?_
    rintro e w3 ⟨rfl, rfl⟩
    by_cases h2 : c2 = 0
    · subst h2
      go_wp2_with fail
      refine (HC3.out _).mono ?_
      rintro e w3 ⟨rfl, rfl⟩
      by_cases h3 : c3 = 0
      · subst h3
        by_cases h0 : r = 0
        · have b0 : ((r : Int) == 0) = true := by rw [beq_iff_eq]; omega
          have H0 := Lib.hid h0
          clear h0
          go_wp2_with fail
          go_ret
          exact ⟨ret_int (by rw [HV.out, H0.out]; rfl), by go_grown⟩
        · have b0 : ((r : Int) == 0) = false := by rw [beq_eq_false_iff_ne]; omega
          have H0 := Lib.hid h0
          clear h0
          go_wp2_with fail
          refine (HC4.out _).mono ?_
          rintro e w3 ⟨rfl, rfl⟩
          go_wp2_with fail
          go_ret
          exact ⟨ret_int (by rw [HV.out, if_neg (fun e => by rcases e with e | e; exact e rfl; exact H0.out e)]; rfl), by go_grown⟩
      · have b3 : (c3 != 0) = true := by simpa using h3
        have H3 := Lib.hid h3
        clear h3
        go_wp2_with fail
        go_ret
        exact ⟨ret_int (by rw [HV.out, if_pos (Or.inl H3.out)]; rfl), by go_grown⟩
    · have b2 : (c2 != 0) = true := by simpa using h2
      have H2 := Lib.hid h2
      clear h2
      go_wp2_with fail
      go_ret
      exact ⟨ret_int (by rw [HV.out]; simp [lexc, H2.out]), by go_grown⟩
  · have b1 : (c1 != 0) = true := by simpa using h1
    have H1 := Lib.hid h1
    clear h1
    go_wp2_with fail
    go_ret
    exact ⟨ret_int (by rw [HV.out]; simp [lexc, H1.out]), by go_grown⟩
end Go.Proofs.Ytdkcpjlcpfkehab
