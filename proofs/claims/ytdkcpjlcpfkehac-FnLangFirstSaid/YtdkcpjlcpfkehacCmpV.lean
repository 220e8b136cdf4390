/- The walks of gover.Compare and impl.Compare. -/
import Derived.Test.YtdkcpjlcpfkehacIs
import Derived.Test.YtdkcpjlcpfkehacStr
namespace Go.Proofs.Ytdkcpjlcpfkehac
open Go.RowKit Plain

theorem cCompareL (x y : List UInt8) (w : World) : Calls Try.prog 26 #[.string (mk x), .string (mk y)] w fun e w' => e = .returned (.int .i64 (cmpStr x y)) ∧ w = w' := cCompare (mk x) (mk y) w

set_option maxRecDepth 100000 in
set_option maxHeartbeats 4000000 in
theorem gCompare (x y : List UInt8) (w : World) (hx : x.length ≤ 140737488351232) (hy : y.length ≤ 140737488351232) :
    Calls Try.prog 18 #[.string (mk x), .string (mk y)] w fun e w' => e = .returned (.int .i64 (cmpX x y)) ∧ Below w.heap.size w w' := by
  have HP := Lib.hid (gParse x)
  have HQ := Lib.hid (gParse y)
  obtain ⟨⟨m, i, p, k, q⟩, hv⟩ : ∃ v, parse x = v := ⟨_, rfl⟩
  obtain ⟨⟨m', i', p', k', q'⟩, hv'⟩ : ∃ v, parse y = v := ⟨_, rfl⟩
  rw [hv] at HP
  rw [hv'] at HQ
  unfold verV at HP HQ
  simp only [] at HP HQ
  have HC1 := Lib.hid (gCmpIntL m m')
  have HC2 := Lib.hid (gCmpIntL i i')
  have HC3 := Lib.hid (gCmpIntL p p')
  have HC4 := Lib.hid (cCompareL k k')
  have HC5 := Lib.hid (gCmpIntL q q')
  have HV : Hid (cmpX x y = lexc (cmpInt m m') (lexc (cmpInt i i') (lexc (cmpInt p p') (lexc (cmpStr k k') (cmpInt q q'))))) := by
    show _ = _
    unfold cmpX
    rw [hv, hv']
    rfl
  generalize cmpX x y = R at *
  generalize cmpInt m m' = c1 at *
  generalize cmpInt i i' = c2 at *
  generalize cmpInt p p' = c3 at *
  generalize cmpStr k k' = c4 at *
  generalize cmpInt q q' = c5 at *
  clear hv hv'
  go_enter Try.func18, Try.ntmps18
  go_wp2_with fail
  refine (HP.out _ hx).mono ?_
  rintro e w1 ⟨rfl, hb1⟩
  go_wp2_with fail
  refine (HQ.out _ hy).mono ?_
  rintro e w2 ⟨rfl, hb2⟩
  have hb : Below w.heap.size w w2 := (hb1.alloc hb1.size _).trans (hb2.mono (by have := hb1.size; simp; omega))
  have hz : w1.heap.size < w2.heap.size := by have := hb2.size; simp at this; omega
  have HB : Hid (∀ o, Below w.heap.size w (w2.alloc o)) := fun o => hb.alloc hb.size _
  obtain ⟨hc, hf⟩ := bcell hb2
  clear hb1 hb2 hb hf
  go_wp2_with fail
  refine (HC1.out _).mono ?_
  rintro e w3 ⟨rfl, rfl⟩
  by_cases h1 : c1 = 0
  · subst h1
    go_wp2_with fail
    refine (HC2.out _).mono ?_
    rintro e w3 ⟨rfl, rfl⟩
    by_cases h2 : c2 = 0
    · subst h2
      go_wp2_with fail
      refine (HC3.out _).mono ?_
      rintro e w3 ⟨rfl, rfl⟩
      by_cases h3 : c3 = 0
      · subst h3
        go_wp2_with fail
        refine (HC4.out _).mono ?_
        rintro e w3 ⟨rfl, rfl⟩
        by_cases h4 : c4 = 0
        · subst h4
          go_wp2_with fail
          refine (HC5.out _).mono ?_
          rintro e w3 ⟨rfl, rfl⟩
          by_cases h5 : c5 = 0
          · subst h5
            go_wp2_with fail
            go_ret
            exact ⟨ret_int (by rw [HV.out]; rfl), HB.out _⟩
          · have b5 : (c5 != 0) = true := by simpa using h5
            clear h5
            go_wp2_with fail
            go_ret
            exact ⟨ret_int (by rw [HV.out]; rfl), HB.out _⟩
        · have b4 : (c4 != 0) = true := by simpa using h4
          have H4 := Lib.hid h4
          clear h4
          go_wp2_with fail
          go_ret
          exact ⟨ret_int (by rw [HV.out]; simp [lexc, H4.out]), HB.out _⟩
      · have b3 : (c3 != 0) = true := by simpa using h3
        have H3 := Lib.hid h3
        clear h3
        go_wp2_with fail
        go_ret
        exact ⟨ret_int (by rw [HV.out]; simp [lexc, H3.out]), HB.out _⟩
    · have b2 : (c2 != 0) = true := by simpa using h2
      have H2 := Lib.hid h2
      clear h2
      go_wp2_with fail
      go_ret
      exact ⟨ret_int (by rw [HV.out]; simp [lexc, H2.out]), HB.out _⟩
  · have b1 : (c1 != 0) = true := by simpa using h1
    have H1 := Lib.hid h1
    clear h1
    go_wp2_with fail
    go_ret
    exact ⟨ret_int (by rw [HV.out]; simp [lexc, H1.out]), HB.out _⟩

theorem iCompare (x y : List UInt8) (w : World) (hx : x.length ≤ 140737488351232) (hy : y.length ≤ 140737488351232) :
    Calls Try.prog 9 #[.string (mk x), .string (mk y)] w fun e w' => e = .returned (.int .i64 (cmpX x y)) ∧ Below w.heap.size w w' := by
  have H := Lib.hid (gCompare x y)
  generalize cmpX x y = c at *
  go_enter Try.func9, Try.ntmps9
  go_wp2_with fail
  refine (H.out _ hx hy).mono ?_
  rintro e w' ⟨rfl, hb⟩
  go_wp2_with fail
  go_ret
  exact ⟨rfl, hb⟩
end Go.Proofs.Ytdkcpjlcpfkehac
