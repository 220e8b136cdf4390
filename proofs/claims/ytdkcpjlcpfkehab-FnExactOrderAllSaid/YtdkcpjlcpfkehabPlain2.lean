/- Plain law, no Go in sight: a decimal number less one and more one; comparisons as linear orders; versions taken apart, written, compared. -/
import Derived.Test.YtdkcpjlcpfkehabPlain1
namespace Go.Proofs.Ytdkcpjlcpfkehab.Plain

/-! ### Less one, more one -/

/-- A list ends in copies of one byte, or is made of it. -/
theorem tail_form (c : UInt8) : ∀ l : List UInt8, (∃ n, l = List.replicate n c) ∨ ∃ p d k, d ≠ c ∧ l = p ++ d :: List.replicate k c
  | [] => Or.inl ⟨0, rfl⟩
  | a :: l => by
    rcases tail_form c l with ⟨n, rfl⟩ | ⟨p, d, k, hd, rfl⟩
    · by_cases h : a = c
      · subst h; exact Or.inl ⟨n + 1, by simp [List.replicate_succ]⟩
      · exact Or.inr ⟨[], a, n, h, rfl⟩
    · exact Or.inr ⟨a :: p, d, k, hd, rfl⟩

/-- What 'less one' writes for p, a digit that is not zero, and k zeros. -/
def decOut (p : List UInt8) (d : UInt8) (k : Nat) : List UInt8 :=
  if p = [] ∧ d = 49 ∧ 0 < k then List.replicate k 57 else p ++ (d - 1) :: List.replicate k 57

theorem decOut_strip (k : Nat) (h : 0 < k) : decOut [] 49 k = List.replicate k 57 := by simp [decOut, h]
theorem decOut_keep {p : List UInt8} {d : UInt8} {k : Nat} (h : ¬ (p = [] ∧ d = 49 ∧ 0 < k)) : decOut p d k = p ++ (d - 1) :: List.replicate k 57 := by simp only [decOut, if_neg h]

theorem append_lt_append (p : List UInt8) {a b : List UInt8} (h : a < b) : p ++ a < p ++ b := by
  induction p with
  | nil => exact h
  | cons c p ih => rw [List.cons_append, List.cons_append, List.cons_lt_cons_iff]; exact Or.inr ⟨rfl, ih⟩

theorem toNat_pred {d : UInt8} (h : 48 ≤ d.toNat) : (d - 1).toNat = d.toNat - 1 := by
  rw [UInt8.toNat_sub_of_le]
  · rfl
  · rw [UInt8.le_iff_toNat_le]; simp; omega

/-- What is one less is less. -/
theorem cmpInt_decOut (p : List UInt8) (d : UInt8) (k : Nat) (h : 48 < d.toNat) : cmpInt (decOut p d k) (p ++ d :: List.replicate k 48) = -1 := by
  by_cases hc : p = [] ∧ d = 49 ∧ 0 < k
  · obtain ⟨rfl, rfl, hk⟩ := hc
    rw [decOut_strip k hk]
    unfold cmpInt
    have hl : (List.replicate k (57 : UInt8)).length < ([] ++ (49 : UInt8) :: List.replicate k 48).length := by simp
    rw [if_neg (fun e => by rw [e] at hl; omega), if_pos hl]
  · rw [decOut_keep hc]
    have hp := toNat_pred (d := d) (by omega)
    have hlt : p ++ (d - 1) :: List.replicate k 57 < p ++ d :: List.replicate k 48 := by
      apply append_lt_append
      rw [List.cons_lt_cons_iff]
      left
      rw [UInt8.lt_iff_toNat_lt]; omega
    unfold cmpInt
    rw [if_neg, if_neg (by simp), if_neg (by simp), if_pos hlt]
    intro e
    rw [e] at hlt
    exact absurd hlt (List.lt_irrefl _)

theorem toNat_pred_lt {d : UInt8} (h : 48 < d.toNat) (h' : d.toNat ≤ 57) : (d - 1).toNat < 57 := by
  rw [toNat_pred (by omega)]; omega
theorem pred_succ (d : UInt8) : d - 1 + 1 = d := by
  simp

/-! ### Comparisons that are linear orders -/

/-- A comparison: 0 at one and the same alone, turned round the opposite, -1, 0 or 1, one behind the other. -/
structure IsCmp {α : Type} (c : α → α → Int) : Prop where
  zero : ∀ x y, c x y = 0 ↔ x = y
  anti : ∀ x y, c y x = - c x y
  range : ∀ x y, c x y = -1 ∨ c x y = 0 ∨ c x y = 1
  trans : ∀ x y z, c x y ≤ 0 → c y z ≤ 0 → c x z ≤ 0

theorem IsCmp.self {α : Type} {c : α → α → Int} (h : IsCmp c) (x : α) : c x x = 0 := (h.zero x x).2 rfl

theorem IsCmp.chain {α : Type} {c : α → α → Int} (h : IsCmp c) {x y z : α} (h1 : c x y ≤ 0) (h2 : c y z ≤ 0) : c x z ≤ 0 ∧ (c x z = 0 ↔ c x y = 0 ∧ c y z = 0) := by
  refine ⟨h.trans x y z h1 h2, fun e => ?_, fun ⟨e1, e2⟩ => ?_⟩
  · obtain rfl := (h.zero x z).1 e
    have := h.anti x y
    exact ⟨by omega, by omega⟩
  · obtain rfl := (h.zero x y).1 e1
    exact e2

theorem IsCmp.of_lt {α : Type} [LT α] {c : α → α → Int} (tr : ∀ x y z : α, x < y → y < z → x < z)
    (h1 : ∀ x y, c x y = -1 ↔ x < y) (h2 : ∀ x y, c x y = 1 ↔ y < x) (h3 : ∀ x y, c x y = 0 ↔ x = y) (tot : ∀ x y : α, x < y ∨ x = y ∨ y < x) : IsCmp c := by
  refine ⟨h3, fun x y => ?_, fun x y => ?_, fun x y z => ?_⟩
  · rcases tot x y with h | h | h
    · rw [(h1 x y).2 h, (h2 y x).2 h]; rfl
    · rw [(h3 x y).2 h, (h3 y x).2 h.symm]; rfl
    · rw [(h2 x y).2 h, (h1 y x).2 h]
  · rcases tot x y with h | h | h
    · exact Or.inl ((h1 x y).2 h)
    · exact Or.inr (Or.inl ((h3 x y).2 h))
    · exact Or.inr (Or.inr ((h2 x y).2 h))
  · intro a b
    have key : ∀ u v : α, c u v ≤ 0 → u < v ∨ u = v := fun u v hh => by
      rcases tot u v with h | h | h
      · exact Or.inl h
      · exact Or.inr h
      · have := (h2 u v).2 h; omega
    rcases key x y a with h | rfl
    · rcases key y z b with h' | rfl
      · have := (h1 x z).2 (tr x y z h h'); omega
      · exact a
    · exact b

/-- Two comparisons, the second where the first says 0. -/
def lexc (a b : Int) : Int := if a = 0 then b else a

theorem IsCmp.lex {α β : Type} {c : α → α → Int} {d : β → β → Int} (hc : IsCmp c) (hd : IsCmp d) : IsCmp (fun x y : α × β => lexc (c x.1 y.1) (d x.2 y.2)) := by
  refine ⟨fun x y => ?_, fun x y => ?_, fun x y => ?_, fun x y z => ?_⟩
  · unfold lexc
    have h1 := hc.zero x.1 y.1
    have h2 := hd.zero x.2 y.2
    split
    · rename_i h
      rw [h2]
      constructor
      · intro e; exact Prod.ext (h1.1 h) e
      · intro e; rw [e]
    · rename_i h
      constructor
      · intro e; exact absurd e h
      · intro e; exact absurd (h1.2 (by rw [e])) h
  · unfold lexc
    have h1 := hc.anti x.1 y.1
    have h2 := hd.anti x.2 y.2
    split <;> split <;> omega
  · unfold lexc
    split
    · exact hd.range _ _
    · exact hc.range _ _
  · unfold lexc
    intro a b
    have t1 := hc.trans x.1 y.1 z.1
    have t2 := hd.trans x.2 y.2 z.2
    by_cases e1 : c x.1 y.1 = 0
    · have q1 := (hc.zero _ _).1 e1
      rw [if_pos e1] at a
      by_cases e2 : c y.1 z.1 = 0
      · have q2 := (hc.zero _ _).1 e2
        rw [if_pos e2] at b
        rw [if_pos ((hc.zero _ _).2 (q1.trans q2))]
        exact t2 a b
      · rw [if_neg e2] at b
        rw [q1, if_neg e2]; exact b
    · rw [if_neg e1] at a
      by_cases e2 : c y.1 z.1 = 0
      · have q2 := (hc.zero _ _).1 e2
        rw [← q2, if_neg e1]; exact a
      · rw [if_neg e2] at b
        have := t1 a b
        by_cases e3 : c x.1 z.1 = 0
        · exfalso
          have q3 := (hc.zero _ _).1 e3
          have := hc.anti x.1 y.1
          rw [← q3] at b e2
          omega
        · rw [if_neg e3]; exact this

theorem bytes_tot (x y : List UInt8) : x < y ∨ x = y ∨ y < x := by
  by_cases h1 : x < y
  · exact Or.inl h1
  · by_cases h2 : y < x
    · exact Or.inr (Or.inr h2)
    · exact Or.inr (Or.inl (List.le_antisymm (List.not_lt.1 h2) (List.not_lt.1 h1)))

/-- -1, 0 or 1 of two texts, byte by byte. -/
def cmpStr (x y : List UInt8) : Int := if x < y then -1 else if y < x then 1 else 0

theorem isCmp_cmpStr : IsCmp cmpStr := by
  have irr : ∀ x : List UInt8, ¬ x < x := List.lt_irrefl
  have tr : ∀ x y z : List UInt8, x < y → y < z → x < z := fun _ _ _ => List.lt_trans
  refine IsCmp.of_lt tr (fun x y => ?_) (fun x y => ?_) (fun x y => ?_) bytes_tot
  · unfold cmpStr
    by_cases h : x < y
    · simp [h]
    · by_cases h2 : y < x <;> simp [h, h2]
  · unfold cmpStr
    by_cases h : x < y
    · have : ¬ y < x := fun h2 => irr _ (tr _ _ _ h h2)
      simp [h, this]
    · by_cases h2 : y < x <;> simp [h, h2]
  · unfold cmpStr
    rcases bytes_tot x y with h | h | h
    · have : x ≠ y := fun e => irr y (e ▸ h)
      simp [h, this]
    · subst h; simp [irr]
    · have h2 : ¬ x < y := fun h2 => irr _ (tr _ _ _ h h2)
      have : x ≠ y := fun e => irr y (e ▸ h)
      simp [h, h2, this]

theorem isCmp_cmpInt : IsCmp cmpInt := by
  have irr : ∀ x : List UInt8, ¬ x < x := List.lt_irrefl
  have tr : ∀ x y z : List UInt8, x < y → y < z → x < z := fun _ _ _ => List.lt_trans
  have key : cmpInt = fun x y => lexc (ord x.length y.length) (cmpStr x y) := by
    funext x y
    unfold cmpInt lexc ord cmpStr
    by_cases e : x = y
    · subst e; simp [irr]
    · rw [if_neg e]
      by_cases h1 : x.length < y.length
      · rw [if_pos h1, if_pos h1, if_neg (by omega)]
      · rw [if_neg h1, if_neg h1]
        by_cases h2 : y.length < x.length
        · rw [if_pos h2, if_pos h2, if_neg (by omega)]
        · rw [if_neg h2, if_neg h2, if_pos rfl]
          by_cases h3 : x < y
          · rw [if_pos h3, if_pos h3]
          · rw [if_neg h3, if_neg h3]
            rcases bytes_tot x y with h | h | h
            · exact absurd h h3
            · exact absurd h e
            · rw [if_pos h]
  have hord : IsCmp ord := by
    refine ⟨fun x y => ?_, fun x y => ?_, fun x y => ?_, fun x y z => ?_⟩
    all_goals unfold ord
    · split
      · constructor <;> intro h <;> omega
      · split
        · constructor <;> intro h <;> omega
        · constructor <;> intro h <;> omega
    · (repeat' split) <;> omega
    · (repeat' split) <;> omega
    · (repeat' split) <;> omega
  rw [key]
  have hl := IsCmp.lex hord isCmp_cmpStr
  refine ⟨fun x y => ?_, fun x y => ?_, fun x y => ?_, fun x y z => ?_⟩
  · have := hl.zero (x.length, x) (y.length, y)
    simp only [Prod.mk.injEq] at this
    rw [this]
    constructor
    · exact fun h => h.2
    · rintro rfl; exact ⟨rfl, rfl⟩
  · exact hl.anti (x.length, x) (y.length, y)
  · exact hl.range (x.length, x) (y.length, y)
  · exact hl.trans (x.length, x) (y.length, y) (z.length, z)

end Go.Proofs.Ytdkcpjlcpfkehab.Plain
