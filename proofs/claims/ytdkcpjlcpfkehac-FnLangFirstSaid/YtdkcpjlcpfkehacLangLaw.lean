/- Plain law of the language's version of a release, and the world behind a release's box in a statement whose order is open. -/
import Derived.Test.YtdkcpjlcpfkehacRelLaw
import Derived.Test.YtdkcpjlcpfkehacLang
namespace Go.Proofs.Ytdkcpjlcpfkehac
open Go.RowKit Plain
open Go.Sort (grow)

theorem dec0 : dec 0 = [48] := by rw [dec_small (by omega)]; rfl
theorem dec1 : dec 1 = [49] := by rw [dec_small (by omega)]; rfl

theorem langX_text {a b : Nat} (s n : Nat) (h : ¬ (a = 1 ∧ b = 0)) : langX (textOf a b s n) = langOf a b := by
  obtain ⟨h1, h2⟩ := textOf_major a b s n
  unfold langX langV
  rw [h1, h2, if_neg]
  · rfl
  · intro e
    rcases e with e | ⟨e1, e2⟩
    · exact (num_dec b).2.1 e
    · exact h ⟨dec_inj (e1.trans dec1.symm), dec_inj (e2.trans dec0.symm)⟩

theorem langX_text10 (s n : Nat) : langX (textOf 1 0 s n) = [49] := by
  obtain ⟨h1, h2⟩ := textOf_major 1 0 s n
  unfold langX langV
  rw [h1, h2, if_pos (Or.inr ⟨dec1, dec0⟩), dec1]

theorem langX_lang {a b : Nat} (h : ¬ (a = 1 ∧ b = 0)) : langX (langOf a b) = langOf a b := by
  have := langX_text 0 0 h
  have e : textOf a b 0 0 = langOf a b := by unfold textOf; rw [if_pos rfl]
  rw [e] at this
  exact this

theorem langX_one : langX [49] = [49] := by decide +kernel

theorem langOf_inj {a b c d : Nat} (h : langOf a b = langOf c d) : a = c ∧ b = d := by
  have h1 := parse_langOf a b
  have h2 := parse_langOf c d
  rw [h] at h1
  have e := h1.symm.trans h2
  exact ⟨dec_inj (congrArg Ver.major e), dec_inj (congrArg Ver.minor e)⟩

theorem langOf_ne (a b : Nat) : langOf a b ≠ [49] := by
  intro e
  have := congrArg List.length e
  have h1 := len_pos (num_dec a).2.1
  simp [langOf] at this
  omega
end Go.Proofs.Ytdkcpjlcpfkehac
