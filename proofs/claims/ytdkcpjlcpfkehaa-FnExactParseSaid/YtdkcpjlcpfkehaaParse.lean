/- The walk of gover.Parse: it returns what the plain law takes the text apart into. First part: as far as the patch. -/
import Derived.Test.YtdkcpjlcpfkehaaMk
namespace Go.Proofs.Ytdkcpjlcpfkehaa
open Go.RowKit Plain

set_option maxRecDepth 100000 in
set_option maxHeartbeats 1000000 in
theorem gParse_no (l : List UInt8) (w : World) (hl : l.length ≤ 140737488351232) (h : cut l = none) :
    Calls Try.prog 24 #[.string (mk l)] w fun e w' => e = .returned (verV zeroVer) ∧ Below w.heap.size w w' := by
  have H := Lib.hid h
  clear h
  go_enter Try.func24, Try.ntmps24
  go_wp2_with fail
  refine (gcutL_no l _ hl H.out).mono ?_
  rintro e w' ⟨rfl, rfl⟩
  go_wp2_with fail
  go_returns
  exact ⟨rfl, by go_grown⟩

set_option maxRecDepth 100000 in
set_option maxHeartbeats 1000000 in
theorem gParse_major (l a : List UInt8) (w : World) (hl : l.length ≤ 140737488351232) (h : cut l = some (a, [])) :
    Calls Try.prog 24 #[.string (mk l)] w fun e w' => e = .returned (verV ⟨a, [48], [48], [], []⟩) ∧ Below w.heap.size w w' := by
  have H := Lib.hid h
  clear h
  go_enter Try.func24, Try.ntmps24
  go_wp2_with fail
  refine (gcutL_yes l a [] _ hl H.out).mono ?_
  rintro e w' ⟨rfl, n1, rfl⟩
  go_wp2_with fail
  go_returns
  exact ⟨rfl, drewN_below (by go_grown) _⟩

set_option maxRecDepth 100000 in
set_option maxHeartbeats 1000000 in
theorem gParse_nodot (l a r : List UInt8) (c : UInt8) (w : World) (hl : l.length ≤ 140737488351232) (h : cut l = some (a, c :: r)) (hc : c ≠ 46) :
    Calls Try.prog 24 #[.string (mk l)] w fun e w' => e = .returned (verV zeroVer) ∧ Below w.heap.size w w' := by
  have H := Lib.hid h
  have hb : ((c.toNat : Int) != 46) = true := by
    rw [bne_iff_ne]
    intro e
    exact hc (UInt8.toNat_inj.1 (by simp; omega))
  clear h hc
  go_enter Try.func24, Try.ntmps24
  go_wp2_with fail
  refine (gcutL_yes l a (c :: r) _ hl H.out).mono ?_
  rintro e w' ⟨rfl, n1, rfl⟩
  go_wp2_with fail
  go_returns
  exact ⟨rfl, drewN_below (by go_grown) _⟩

set_option maxRecDepth 100000 in
set_option maxHeartbeats 1000000 in
theorem gParse_dotno (l a r : List UInt8) (w : World) (hl : l.length ≤ 140737488351232) (h : cut l = some (a, 46 :: r)) (h2 : cut r = none) :
    Calls Try.prog 24 #[.string (mk l)] w fun e w' => e = .returned (verV zeroVer) ∧ Below w.heap.size w w' := by
  have H := Lib.hid h
  have H2 := Lib.hid h2
  have hr : r.length ≤ 140737488351232 := by have := cut_len h; simp at this; omega
  clear h h2
  go_enter Try.func24, Try.ntmps24
  go_wp2_with fail
  refine (gcutL_yes l a (46 :: r) _ hl H.out).mono ?_
  rintro e w' ⟨rfl, n1, rfl⟩
  go_wp2_with fail
  refine (gcutL_no r _ hr H2.out).mono ?_
  rintro e w' ⟨rfl, rfl⟩
  go_wp2_with fail
  go_returns
  exact ⟨rfl, drewN_below (by go_grown) _⟩

set_option maxRecDepth 100000 in
set_option maxHeartbeats 1000000 in
theorem gParse_old (l a r b : List UInt8) (w : World) (hl : l.length ≤ 140737488351232) (h : cut l = some (a, 46 :: r)) (h2 : cut r = some (b, [])) (ho : cmpInt b [50, 49] < 0) :
    Calls Try.prog 24 #[.string (mk l)] w fun e w' => e = .returned (verV ⟨a, b, [48], [], []⟩) ∧ Below w.heap.size w w' := by
  have H := Lib.hid h
  have H2 := Lib.hid h2
  have hr : r.length ≤ 140737488351232 := by have := cut_len h; simp at this; omega
  clear h h2
  go_enter Try.func24, Try.ntmps24
  go_wp2_with fail
  refine (gcutL_yes l a (46 :: r) _ hl H.out).mono ?_
  rintro e w' ⟨rfl, n1, rfl⟩
  go_wp2_with fail
  refine (gcutL_yes r b [] _ hr H2.out).mono ?_
  rintro e w' ⟨rfl, n2, rfl⟩
  go_wp2_with fail
  refine (gCmpIntL b [50, 49] _).mono ?_
  rintro e w' ⟨rfl, rfl⟩
  go_wp2_with fail
  go_returns
  exact ⟨rfl, drewN_below (by go_grown) _⟩

set_option maxRecDepth 100000 in
set_option maxHeartbeats 1000000 in
theorem gParse_new (l a r b : List UInt8) (w : World) (hl : l.length ≤ 140737488351232) (h : cut l = some (a, 46 :: r)) (h2 : cut r = some (b, [])) (ho : 0 ≤ cmpInt b [50, 49]) :
    Calls Try.prog 24 #[.string (mk l)] w fun e w' => e = .returned (verV ⟨a, b, [], [], []⟩) ∧ Below w.heap.size w w' := by
  have H := Lib.hid h
  have H2 := Lib.hid h2
  have hr : r.length ≤ 140737488351232 := by have := cut_len h; simp at this; omega
  clear h h2
  go_enter Try.func24, Try.ntmps24
  go_wp2_with fail
  refine (gcutL_yes l a (46 :: r) _ hl H.out).mono ?_
  rintro e w' ⟨rfl, n1, rfl⟩
  go_wp2_with fail
  refine (gcutL_yes r b [] _ hr H2.out).mono ?_
  rintro e w' ⟨rfl, n2, rfl⟩
  go_wp2_with fail
  refine (gCmpIntL b [50, 49] _).mono ?_
  rintro e w' ⟨rfl, rfl⟩
  go_wp2_with fail
  go_returns
  exact ⟨rfl, drewN_below (by go_grown) _⟩

theorem gParse_minor (l a r b : List UInt8) (w : World) (hl : l.length ≤ 140737488351232) (h : cut l = some (a, 46 :: r)) (h2 : cut r = some (b, [])) :
    Calls Try.prog 24 #[.string (mk l)] w fun e w' => e = .returned (verV ⟨a, b, if old b = true then [48] else [], [], []⟩) ∧ Below w.heap.size w w' := by
  by_cases ho : cmpInt b [50, 49] < 0
  · have e : old b = true := by unfold old; exact decide_eq_true ho
    rw [if_pos e]
    exact gParse_old l a r b w hl h h2 ho
  · have e : old b ≠ true := by unfold old; simpa using ho
    rw [if_neg e]
    exact gParse_new l a r b w hl h h2 (by omega)

set_option maxRecDepth 100000 in
set_option maxHeartbeats 1000000 in
theorem gParse_patch (l a r b s p : List UInt8) (w : World) (hl : l.length ≤ 140737488351232) (h : cut l = some (a, 46 :: r)) (h2 : cut r = some (b, 46 :: s)) (h3 : cut s = some (p, [])) :
    Calls Try.prog 24 #[.string (mk l)] w fun e w' => e = .returned (verV ⟨a, b, p, [], []⟩) ∧ Below w.heap.size w w' := by
  have H := Lib.hid h
  have H2 := Lib.hid h2
  have H3 := Lib.hid h3
  have hr : r.length ≤ 140737488351232 := by have := cut_len h; simp at this; omega
  have hs : s.length ≤ 140737488351232 := by have := cut_len h2; simp at this; omega
  clear h h2 h3
  go_enter Try.func24, Try.ntmps24
  go_wp2_with fail
  refine (gcutL_yes l a (46 :: r) _ hl H.out).mono ?_
  rintro e w' ⟨rfl, n1, rfl⟩
  go_wp2_with fail
  refine (gcutL_yes r b (46 :: s) _ hr H2.out).mono ?_
  rintro e w' ⟨rfl, n2, rfl⟩
  go_wp2_with fail
  refine (gcutL_yes s p [] _ hs H3.out).mono ?_
  rintro e w' ⟨rfl, n3, rfl⟩
  go_wp2_with fail
  go_returns
  exact ⟨rfl, drewN_below (by go_grown) _⟩

set_option maxRecDepth 100000 in
set_option maxHeartbeats 1000000 in
theorem gParse_patchmore (l a r b s p t : List UInt8) (c : UInt8) (w : World) (hl : l.length ≤ 140737488351232) (h : cut l = some (a, 46 :: r)) (h2 : cut r = some (b, 46 :: s)) (h3 : cut s = some (p, c :: t)) :
    Calls Try.prog 24 #[.string (mk l)] w fun e w' => e = .returned (verV zeroVer) ∧ Below w.heap.size w w' := by
  have H := Lib.hid h
  have H2 := Lib.hid h2
  have H3 := Lib.hid h3
  have hr : r.length ≤ 140737488351232 := by have := cut_len h; simp at this; omega
  have hs : s.length ≤ 140737488351232 := by have := cut_len h2; simp at this; omega
  clear h h2 h3
  go_enter Try.func24, Try.ntmps24
  go_wp2_with fail
  refine (gcutL_yes l a (46 :: r) _ hl H.out).mono ?_
  rintro e w' ⟨rfl, n1, rfl⟩
  go_wp2_with fail
  refine (gcutL_yes r b (46 :: s) _ hr H2.out).mono ?_
  rintro e w' ⟨rfl, n2, rfl⟩
  go_wp2_with fail
  refine (gcutL_yes s p (c :: t) _ hs H3.out).mono ?_
  rintro e w' ⟨rfl, n3, rfl⟩
  go_wp2_with fail
  go_returns
  exact ⟨rfl, drewN_below (by go_grown) _⟩

set_option maxRecDepth 100000 in
set_option maxHeartbeats 1000000 in
theorem gParse_patchno (l a r b s : List UInt8) (w : World) (hl : l.length ≤ 140737488351232) (h : cut l = some (a, 46 :: r)) (h2 : cut r = some (b, 46 :: s)) (h3 : cut s = none) :
    Calls Try.prog 24 #[.string (mk l)] w fun e w' => e = .returned (verV zeroVer) ∧ Below w.heap.size w w' := by
  have H := Lib.hid h
  have H2 := Lib.hid h2
  have H3 := Lib.hid h3
  have hr : r.length ≤ 140737488351232 := by have := cut_len h; simp at this; omega
  have hs : s.length ≤ 140737488351232 := by have := cut_len h2; simp at this; omega
  clear h h2 h3
  go_enter Try.func24, Try.ntmps24
  go_wp2_with fail
  refine (gcutL_yes l a (46 :: r) _ hl H.out).mono ?_
  rintro e w' ⟨rfl, n1, rfl⟩
  go_wp2_with fail
  refine (gcutL_yes r b (46 :: s) _ hr H2.out).mono ?_
  rintro e w' ⟨rfl, n2, rfl⟩
  go_wp2_with fail
  refine (gcutL_no s _ hs H3.out).mono ?_
  rintro e w' ⟨rfl, rfl⟩
  go_wp2_with fail
  go_returns
  exact ⟨rfl, drewN_below (by go_grown) _⟩
end Go.Proofs.Ytdkcpjlcpfkehaa
