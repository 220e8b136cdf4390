/- gover.Parse and impl.Parse: the contract, whole: each returns the version that the plain law takes the text apart into. -/
import Derived.Test.YtdkcpjlcpfkehaaParse3
namespace Go.Proofs.Ytdkcpjlcpfkehaa
open Go.RowKit Plain

theorem word3_all {R : List UInt8} (h : lows R = R.length) : Word3 R R.length := by
  have := word3 R
  rw [h] at this
  exact this

theorem gParse (l : List UInt8) (w : World) (hl : l.length ≤ 140737488351232) :
    Calls Try.prog 24 #[.string (mk l)] w fun e w' => e = .returned (verV (parse l)) ∧ Below w.heap.size w w' := by
  unfold parse
  cases h : cut l with
  | none => exact gParse_no l w hl h
  | some ar =>
    obtain ⟨a, r⟩ := ar
    cases r with
    | nil => exact gParse_major l a w hl h
    | cons c r =>
      simp only []
      by_cases hc : c = 46
      · subst hc
        rw [if_pos rfl]
        unfold parseMinor
        cases h2 : cut r with
        | none => exact gParse_dotno l a r w hl h h2
        | some bs =>
          obtain ⟨b, s⟩ := bs
          cases s with
          | nil => exact gParse_minor l a r b w hl h h2
          | cons d s =>
            simp only []
            unfold parseTail
            by_cases hd : d = 46
            · subst hd
              rw [if_pos rfl]
              cases h3 : cut s with
              | none => exact gParse_patchno l a r b s w hl h h2 h3
              | some pt =>
                obtain ⟨p, t⟩ := pt
                cases t with
                | nil => exact gParse_patch l a r b s p w hl h h2 h3
                | cons e t => exact gParse_patchmore l a r b s p t e w hl h h2 h3
            · rw [if_neg hd]
              have hR : 0 < (d :: s).length := by simp
              have hne : (d :: s)[0] ≠ 46 := hd
              have hnd := (cut_some h2).2.1
              generalize hRe : d :: s = R at *
              have hw := word3 R
              have hle := lows_le R
              by_cases hK : lows R = R.length
              · have hk0 : lows R ≠ 0 := by omega
                have he : R.drop (lows R) = [] := by rw [hK]; simp
                rw [if_neg hk0, if_pos he]
                exact gParse_kind l a r b R w hl h h2 hR hne (word3_all hK)
              · have hlt : lows R < R.length := by omega
                have he : R.drop (lows R) ≠ [] := by
                  intro e
                  have := congrArg List.length e
                  simp at this
                  omega
                have hcons : R.drop (lows R) = R[lows R] :: R.drop (lows R + 1) := List.drop_eq_getElem_cons hlt
                by_cases hdig : isDig R[lows R] = true
                · have hk0 : lows R ≠ 0 := by
                    intro e
                    have : digs R = 0 := hnd
                    rw [show R = R.drop (lows R) by rw [e]; simp, hcons] at this
                    simp [digs, hdig] at this
                  rw [if_neg hk0, if_neg he]
                  have := gParse_pre l a r b R (lows R) w hl h h2 hR hne hw hlt (by omega) hdig
                  unfold preOf at this
                  exact this
                · have hf : isDig R[lows R] = false := by simpa using hdig
                  have hbad := gParse_tail_bad l a r b R (lows R) w hl h h2 hR hne hw hlt hf
                  by_cases hk0 : lows R = 0
                  · rw [if_pos hk0]; exact hbad
                  · rw [if_neg hk0, if_neg he]
                    have hcut : cut (R.drop (lows R)) = none := by
                      apply cut_no
                      rw [hcons]
                      simp [cutOk, digs, hf]
                    rw [hcut]
                    exact hbad
      · rw [if_neg hc]
        exact gParse_nodot l a r c w hl h hc

theorem bcell {W w1 : World} (hb : Below W.heap.size W w1) : (∀ b o, b < W.heap.size → w1.cell? ⟨b, o, none⟩ = W.cell? ⟨b, o, none⟩) ∧ (∀ b o, b < W.heap.size → w1.frozen? ⟨b, o, none⟩ = W.frozen? ⟨b, o, none⟩) :=
  ⟨fun b o h => hb.cell (p := ⟨b, o, none⟩) h, fun b o h => hb.frozen (p := ⟨b, o, none⟩) h⟩

set_option maxRecDepth 100000 in
set_option maxHeartbeats 1000000 in
theorem iParse (l : List UInt8) (w : World) (hl : l.length ≤ 140737488351232) :
    Calls Try.prog 16 #[.string (mk l)] w fun e w' => e = .returned (verV (parse l)) ∧ Below w.heap.size w w' := by
  obtain ⟨v, hv⟩ : ∃ v, parse l = v := ⟨_, rfl⟩
  have HP := Lib.hid (gParse l)
  rw [hv] at HP ⊢
  clear hv
  unfold verV at HP ⊢
  go_enter Try.func16, Try.ntmps16
  go_wp2_with fail
  refine (HP.out _ hl).mono ?_
  rintro e w1 ⟨rfl, hb⟩
  have hz : w.heap.size < w1.heap.size := by have := hb.size; simp at this; omega
  have hb0 : Below w.heap.size w w1 := ((Below.refl _ _).alloc (Nat.le_refl _) _).trans (hb.mono (by simp))
  obtain ⟨hc, hf⟩ := bcell hb
  clear hb
  go_wp2_with fail
  refine bodyPost_ret (v := .agg #[.string (mk v.major), .string (mk v.minor), .string (mk v.patch), .string (mk v.kind), .string (mk v.pre)]) (by simp [results, Try.results16, go_sem, hc]) rfl ⟨rfl, ?_⟩
  go_grown
end Go.Proofs.Ytdkcpjlcpfkehaa
