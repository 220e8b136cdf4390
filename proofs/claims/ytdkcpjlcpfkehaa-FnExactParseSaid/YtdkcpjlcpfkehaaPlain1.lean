/- Plain law, no Go in sight: decimal digit strings as lists of bytes, their values, their order, less one and more one. -/
namespace Go.Proofs.Ytdkcpjlcpfkehaa.Plain

/-- A byte that is a decimal digit. -/
def isDig (c : UInt8) : Bool := decide (48 ≤ c.toNat ∧ c.toNat ≤ 57)

theorem isDig_iff (c : UInt8) : isDig c = true ↔ 48 ≤ c.toNat ∧ c.toNat ≤ 57 := by simp [isDig]
theorem isDig_false (c : UInt8) : isDig c = false ↔ c.toNat < 48 ∨ 57 < c.toNat := by
  simp only [isDig, decide_eq_false_iff_not]; omega

/-- How many digits stand at the front. -/
def digs : List UInt8 → Nat
  | [] => 0
  | c :: r => if isDig c then digs r + 1 else 0

theorem digs_le : ∀ l : List UInt8, digs l ≤ l.length
  | [] => Nat.le_refl _
  | c :: r => by
    have := digs_le r
    unfold digs
    split <;> simp <;> omega

theorem digs_lt : ∀ (l : List UInt8) (k : Nat) (hk : k < l.length), k ≤ digs l → (isDig l[k] = true ↔ k < digs l)
  | [], k, hk, _ => by simp at hk
  | c :: r, 0, _, _ => by
    by_cases h : isDig c = true <;> simp [digs, h]
  | c :: r, k + 1, hk, hl => by
    by_cases h : isDig c = true
    · have hl' : k ≤ digs r := by simp [digs, h] at hl; exact hl
      have := digs_lt r k (by simpa using hk) hl'
      simp [digs, h, this]
    · simp [digs, h] at hl

/-- Every byte is a digit. -/
def allDig (l : List UInt8) : Bool := l.all isDig

theorem digs_append_all (d r : List UInt8) (h : allDig d = true) : digs (d ++ r) = d.length + digs r := by
  induction d with
  | nil => simp
  | cons c d ih =>
    simp only [allDig, List.all_cons, Bool.and_eq_true] at h
    simp only [List.cons_append, digs, h.1, if_true, List.length_cons]
    rw [ih h.2]; omega

theorem digs_all (d : List UInt8) (h : allDig d = true) : digs d = d.length := by
  have := digs_append_all d [] h
  simpa [digs] using this

theorem allDig_take (l : List UInt8) : allDig (l.take (digs l)) = true := by
  induction l with
  | nil => simp [digs, allDig]
  | cons c r ih =>
    by_cases h : isDig c = true
    · simp only [digs, h, if_true, List.take_succ_cons, allDig, List.all_cons, Bool.true_and]
      exact ih
    · simp [digs, h, allDig]

/-- What begins with no digit. -/
def noDig (l : List UInt8) : Prop := digs l = 0

theorem noDig_drop (l : List UInt8) : noDig (l.drop (digs l)) := by
  induction l with
  | nil => simp [digs, noDig]
  | cons c r ih =>
    by_cases h : isDig c = true
    · simp only [digs, h, if_true, List.drop_succ_cons]
      exact ih
    · simp [digs, h, noDig]

/-- One digit, or more without a zero in front. -/
def Num (l : List UInt8) : Prop := allDig l = true ∧ l ≠ [] ∧ (l.head? = some 48 → l.length = 1)

/-- May the digits in front be cut off as a number? -/
def cutOk (l : List UInt8) : Bool := digs l != 0 && (digs l == 1 || l.headD 0 != 48)

theorem num_take {l : List UInt8} (h : cutOk l = true) : Num (l.take (digs l)) := by
  refine ⟨allDig_take l, ?_, ?_⟩
  · intro e
    have := congrArg List.length e
    have hl := digs_le l
    simp only [cutOk, Bool.and_eq_true, bne_iff_ne] at h
    have h1 := h.1
    simp only [List.length_take, List.length_nil] at this
    omega
  · intro e
    have hl := digs_le l
    cases l with
    | nil => simp [cutOk, digs] at h
    | cons c r =>
      simp only [cutOk, Bool.and_eq_true, bne_iff_ne, Bool.or_eq_true, beq_iff_eq, List.headD_cons] at h
      have hd : digs (c :: r) ≠ 0 := h.1
      obtain ⟨k, hk⟩ : ∃ k, digs (c :: r) = k + 1 := ⟨digs (c :: r) - 1, by omega⟩
      rw [hk] at e h hl ⊢
      simp only [List.take_succ_cons, List.head?_cons, Option.some.injEq] at e
      rcases h.2 with h1 | h1
      · have : k = 0 := by omega
        subst this; simp
      · exact absurd e h1

theorem num_cut {d r : List UInt8} (h : Num d) (hr : noDig r) : cutOk (d ++ r) = true ∧ digs (d ++ r) = d.length := by
  obtain ⟨h1, h2, h3⟩ := h
  have e : digs (d ++ r) = d.length := by rw [digs_append_all d r h1, hr]; omega
  refine ⟨?_, e⟩
  cases d with
  | nil => exact absurd rfl h2
  | cons c d =>
    simp only [cutOk, Bool.and_eq_true, bne_iff_ne, Bool.or_eq_true, beq_iff_eq, e]
    refine ⟨by simp, ?_⟩
    by_cases hc : c = 48
    · left; exact h3 (by simp [hc])
    · right; exact hc

theorem len_pos {l : List UInt8} (h : l ≠ []) : 0 < l.length := by
  cases l with
  | nil => exact absurd rfl h
  | cons c r => simp

/-! ### The value of a string of digits -/

/-- The value of a digit. -/
def dv (c : UInt8) : Nat := c.toNat - 48

def val : List UInt8 → Nat
  | [] => 0
  | c :: r => dv c * 10 ^ r.length + val r

theorem dv_le {c : UInt8} (h : isDig c = true) : dv c ≤ 9 := by rw [isDig_iff] at h; unfold dv; omega

theorem dv_inj {a b : UInt8} (ha : isDig a = true) (hb : isDig b = true) (h : dv a = dv b) : a = b := by
  rw [isDig_iff] at ha hb
  unfold dv at h
  exact UInt8.toNat_inj.1 (by omega)

theorem val_lt : ∀ (l : List UInt8), allDig l = true → val l < 10 ^ l.length
  | [], _ => by simp [val]
  | c :: r, h => by
    simp only [allDig, List.all_cons, Bool.and_eq_true] at h
    have hr := val_lt r h.2
    have hc := dv_le h.1
    have : dv c * 10 ^ r.length ≤ 9 * 10 ^ r.length := Nat.mul_le_mul_right _ hc
    simp only [val, List.length_cons, Nat.pow_succ]
    omega

theorem val_append : ∀ (a b : List UInt8), val (a ++ b) = val a * 10 ^ b.length + val b
  | [], b => by simp [val]
  | c :: a, b => by
    simp only [List.cons_append, val, val_append a b, List.length_append, Nat.pow_add, Nat.add_mul, Nat.mul_assoc]
    omega

/-- The value of a number with more than one digit is at least its leading power of ten. -/
theorem le_val {l : List UInt8} (h : Num l) (h1 : l.length ≠ 1) : 10 ^ (l.length - 1) ≤ val l := by
  obtain ⟨ha, hn, hz⟩ := h
  cases l with
  | nil => exact absurd rfl hn
  | cons c r =>
    simp only [allDig, List.all_cons, Bool.and_eq_true] at ha
    have hc : c ≠ 48 := fun e => h1 (hz (by simp [e]))
    have hd := (isDig_iff c).1 ha.1
    have : c.toNat ≠ 48 := fun e => hc (UInt8.toNat_inj.1 (by simpa using e))
    have hp : 1 ≤ dv c := by unfold dv; omega
    have := Nat.mul_le_mul_right (10 ^ r.length) hp
    simp only [List.length_cons, Nat.add_sub_cancel, val]
    omega

/-- Strings of digits of one length are in the order of their values. -/
theorem lt_iff_val : ∀ (x y : List UInt8), x.length = y.length → allDig x = true → allDig y = true → (x < y ↔ val x < val y)
  | [], [], _, _, _ => by simp [val]
  | [], _ :: _, h, _, _ => by simp at h
  | _ :: _, [], h, _, _ => by simp at h
  | a :: x, b :: y, h, ha, hb => by
    have hl : x.length = y.length := by simpa using h
    simp only [allDig, List.all_cons, Bool.and_eq_true] at ha hb
    have ih := lt_iff_val x y hl ha.2 hb.2
    have vx := val_lt x ha.2
    have vy := val_lt y hb.2
    have da := (isDig_iff a).1 ha.1
    have db := (isDig_iff b).1 hb.1
    simp only [List.cons_lt_cons_iff, val, ih, hl]
    rw [hl] at vx
    generalize 10 ^ y.length = p at vx vy ⊢
    have e1 : dv a = a.toNat - 48 := rfl
    have e2 : dv b = b.toNat - 48 := rfl
    constructor
    · rintro (h | ⟨rfl, h⟩)
      · rw [UInt8.lt_iff_toNat_lt] at h
        have : dv a + 1 ≤ dv b := by omega
        have := Nat.mul_le_mul_right p this
        rw [Nat.add_mul] at this
        omega
      · omega
    · intro h
      by_cases hab : a = b
      · subst hab
        right
        exact ⟨rfl, by omega⟩
      · left
        rw [UInt8.lt_iff_toNat_lt]
        apply Nat.lt_of_not_le
        intro hle
        have hne : a.toNat ≠ b.toNat := fun e => hab (UInt8.toNat_inj.1 e)
        have : dv b + 1 ≤ dv a := by omega
        have := Nat.mul_le_mul_right p this
        rw [Nat.add_mul] at this
        omega

theorem val_inj {x y : List UInt8} (hl : x.length = y.length) (hx : allDig x = true) (hy : allDig y = true) (h : val x = val y) : x = y := by
  induction x generalizing y with
  | nil => cases y with
    | nil => rfl
    | cons => simp at hl
  | cons a x ih =>
    cases y with
    | nil => simp at hl
    | cons b y =>
      have hl' : x.length = y.length := by simpa using hl
      simp only [allDig, List.all_cons, Bool.and_eq_true] at hx hy
      have vx := val_lt x hx.2
      have vy := val_lt y hy.2
      simp only [val, hl'] at h
      rw [hl'] at vx
      have hd : dv a = dv b := by
        generalize 10 ^ y.length = p at vx vy h
        apply Nat.le_antisymm
        · apply Nat.le_of_not_lt
          intro hlt
          have := Nat.mul_le_mul_right p (show dv b + 1 ≤ dv a from hlt)
          rw [Nat.add_mul] at this
          omega
        · apply Nat.le_of_not_lt
          intro hlt
          have := Nat.mul_le_mul_right p (show dv a + 1 ≤ dv b from hlt)
          rw [Nat.add_mul] at this
          omega
      have hab := dv_inj hx.1 hy.1 hd
      subst hab
      rw [ih hl' hx.2 hy.2 (by omega)]

/-! ### The comparison -/

/-- -1, 0 or 1. -/
def cmpInt (x y : List UInt8) : Int :=
  if x = y then 0 else if x.length < y.length then -1 else if y.length < x.length then 1 else if x < y then -1 else 1

/-- -1, 0 or 1 of two numbers. -/
def ord (a b : Nat) : Int := if a < b then -1 else if b < a then 1 else 0

theorem lenLt_val {x y : List UInt8} (hx : Num x) (hy : Num y) (h : x.length < y.length) : val x < val y := by
  have h1 := val_lt x hx.1
  have h0 : 0 < x.length := len_pos hx.2.1
  have h2 := le_val hy (by omega)
  have := Nat.pow_le_pow_right (n := 10) (by omega) (show x.length ≤ y.length - 1 by omega)
  omega

theorem cmpInt_num {x y : List UInt8} (hx : Num x) (hy : Num y) : cmpInt x y = ord (val x) (val y) := by
  unfold cmpInt ord
  by_cases he : x = y
  · subst he; simp
  · rw [if_neg he]
    by_cases h1 : x.length < y.length
    · rw [if_pos h1, if_pos (lenLt_val hx hy h1)]
    · rw [if_neg h1]
      by_cases h2 : y.length < x.length
      · have := lenLt_val hy hx h2
        rw [if_pos h2, if_neg (by omega), if_pos this]
      · rw [if_neg h2]
        have hl : x.length = y.length := by omega
        have hne : val x ≠ val y := fun e => he (val_inj hl hx.1 hy.1 e)
        have := lt_iff_val x y hl hx.1 hy.1
        by_cases h3 : x < y
        · rw [if_pos h3, if_pos (this.1 h3)]
        · rw [if_neg h3, if_neg (fun h => h3 (this.2 h)), if_pos (by have : ¬ val x < val y := fun h => h3 (this.2 h); omega)]

/-! ### Numbers written in decimal -/

/-- The byte of a digit. -/
def digitB (n : Nat) : UInt8 := UInt8.ofNat (48 + n)

def dec (n : Nat) : List UInt8 := if n < 10 then [digitB n] else dec (n / 10) ++ [digitB (n % 10)]
  decreasing_by omega

theorem toNat_digit {n : Nat} (h : n < 10) : (digitB n).toNat = 48 + n := by
  unfold digitB
  rw [UInt8.toNat_ofNat']
  omega

theorem isDig_digit {n : Nat} (h : n < 10) : isDig (digitB n) = true := by
  rw [isDig_iff, toNat_digit h]; omega

theorem dv_digit {n : Nat} (h : n < 10) : dv (digitB n) = n := by
  unfold dv; rw [toNat_digit h]; omega

theorem dec_small {n : Nat} (h : n < 10) : dec n = [digitB n] := by rw [dec, if_pos h]
theorem dec_big {n : Nat} (h : ¬ n < 10) : dec n = dec (n / 10) ++ [digitB (n % 10)] := by rw [dec, if_neg h]

theorem head_append {a b : List UInt8} (h : a ≠ []) : (a ++ b).head? = a.head? := by
  cases a with
  | nil => exact absurd rfl h
  | cons c r => rfl

theorem dec_spec (n : Nat) : allDig (dec n) = true ∧ dec n ≠ [] ∧ val (dec n) = n ∧ ((dec n).head? = some 48 → n = 0) := by
  induction n using Nat.strongRecOn with
  | ind n ih =>
    by_cases h : n < 10
    · rw [dec_small h]
      refine ⟨by simp [allDig, isDig_digit h], by simp, by simp [val, dv_digit h], ?_⟩
      simp only [List.head?_cons, Option.some.injEq]
      intro e
      have := congrArg UInt8.toNat e
      rw [toNat_digit h] at this
      simp at this
      omega
    · have hlt : n / 10 < n := by omega
      obtain ⟨i1, i2, i3, i4⟩ := ih (n / 10) hlt
      have hm : n % 10 < 10 := by omega
      rw [dec_big h]
      refine ⟨?_, by simp, ?_, ?_⟩
      · simp only [allDig, List.all_append, List.all_cons, List.all_nil, Bool.and_true, isDig_digit hm]
        exact i1
      · rw [val_append, i3]
        simp [val, dv_digit hm]
        omega
      · intro e
        rw [head_append i2] at e
        have := i4 e
        omega

theorem num_dec (n : Nat) : Num (dec n) := by
  obtain ⟨h1, h2, h3, h4⟩ := dec_spec n
  refine ⟨h1, h2, fun e => ?_⟩
  have := h4 e
  subst this
  rw [dec_small (by omega)]
  rfl

theorem val_dec (n : Nat) : val (dec n) = n := (dec_spec n).2.2.1

theorem dec_inj {a b : Nat} (h : dec a = dec b) : a = b := by rw [← val_dec a, h, val_dec]

theorem cmpInt_dec (a b : Nat) : cmpInt (dec a) (dec b) = ord a b := by
  rw [cmpInt_num (num_dec a) (num_dec b), val_dec, val_dec]

theorem dec_length (n : Nat) (k : Nat) (h : n < 10 ^ (k + 1)) : (dec n).length ≤ k + 1 := by
  induction k generalizing n with
  | zero => rw [dec_small (by simpa using h)]; simp
  | succ k ih =>
    by_cases hs : n < 10
    · rw [dec_small hs]; simp
    · rw [dec_big hs]
      have := ih (n / 10) (by rw [Nat.pow_succ] at h; omega)
      simp
      omega

end Go.Proofs.Ytdkcpjlcpfkehaa.Plain
