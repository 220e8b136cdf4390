/- Plain law, no Go in sight: versions taken apart (parse), written again, and compared. -/
import Derived.Test.YtdkcpjlcpfkehabPlain2
namespace Go.Proofs.Ytdkcpjlcpfkehab.Plain

abbrev L := List UInt8

/-- A version, taken apart. -/
structure Ver where
  major : L
  minor : L
  patch : L
  kind : L
  pre : L

theorem Ver.ext5 {v w : Ver} (h1 : v.major = w.major) (h2 : v.minor = w.minor) (h3 : v.patch = w.patch) (h4 : v.kind = w.kind) (h5 : v.pre = w.pre) : v = w := by
  cases v; cases w; simp_all

def zeroVer : Ver := ⟨[], [], [], [], []⟩

/-- A small letter. -/
def isLow (c : UInt8) : Bool := decide (97 ≤ c.toNat ∧ c.toNat ≤ 122)
theorem isLow_iff (c : UInt8) : isLow c = true ↔ 97 ≤ c.toNat ∧ c.toNat ≤ 122 := by simp [isLow]

/-- How many small letters stand at the front. -/
def lows : L → Nat
  | [] => 0
  | c :: r => if isLow c then lows r + 1 else 0

theorem lows_le : ∀ l : L, lows l ≤ l.length
  | [] => Nat.le_refl _
  | c :: r => by
    have := lows_le r
    unfold lows
    split <;> simp <;> omega

theorem lows_lt : ∀ (l : L) (k : Nat) (hk : k < l.length), k ≤ lows l → (isLow l[k] = true ↔ k < lows l)
  | [], k, hk, _ => by simp at hk
  | c :: r, 0, _, _ => by by_cases h : isLow c = true <;> simp [lows, h]
  | c :: r, k + 1, hk, hl => by
    by_cases h : isLow c = true
    · have hl' : k ≤ lows r := by simp [lows, h] at hl; exact hl
      have := lows_lt r k (by simpa using hk) hl'
      simp [lows, h, this]
    · simp [lows, h] at hl

def allLow (l : L) : Bool := l.all isLow
/-- The word of a stage: small letters, at least one. -/
def Word (l : L) : Prop := allLow l = true ∧ l ≠ []
/-- What begins with no small letter. -/
def noLow (l : L) : Prop := lows l = 0

theorem lows_append_all (d r : L) (h : allLow d = true) : lows (d ++ r) = d.length + lows r := by
  induction d with
  | nil => simp
  | cons c d ih =>
    simp only [allLow, List.all_cons, Bool.and_eq_true] at h
    simp only [List.cons_append, lows, h.1, if_true, List.length_cons]
    rw [ih h.2]; omega

theorem allLow_take (l : L) : allLow (l.take (lows l)) = true := by
  induction l with
  | nil => simp [lows, allLow]
  | cons c r ih =>
    by_cases h : isLow c = true
    · simp only [lows, h, if_true, List.take_succ_cons, allLow, List.all_cons, Bool.true_and]
      exact ih
    · simp [lows, h, allLow]

/-- The number in front, and the rest. -/
def cut (l : L) : Option (L × L) := if cutOk l = true then some (l.take (digs l), l.drop (digs l)) else none

theorem cut_some {l a r : L} (h : cut l = some (a, r)) : Num a ∧ noDig r ∧ l = a ++ r := by
  unfold cut at h
  split at h
  · rename_i hc
    simp only [Option.some.injEq, Prod.mk.injEq] at h
    obtain ⟨rfl, rfl⟩ := h
    exact ⟨num_take hc, noDig_drop l, (List.take_append_drop _ _).symm⟩
  · simp at h

theorem cut_num {a r : L} (h : Num a) (hr : noDig r) : cut (a ++ r) = some (a, r) := by
  obtain ⟨h1, h2⟩ := num_cut h hr
  simp [cut, h1, h2]

theorem cut_num_nil {a : L} (h : Num a) : cut a = some (a, []) := by
  have := cut_num (r := []) h rfl
  simpa using this

theorem cut_yes {l : L} (h : cutOk l = true) : cut l = some (l.take (digs l), l.drop (digs l)) := by rw [cut, if_pos h]
theorem cut_no {l : L} (h : cutOk l = false) : cut l = none := by rw [cut, if_neg (by simp [h])]

/-- What stands behind major and minor: a, b the two numbers, 'c :: r' the rest. -/
def parseTail (a b : L) (c : UInt8) (r : L) : Ver :=
  if c = 46 then
    match cut r with
    | some (p, []) => ⟨a, b, p, [], []⟩
    | _ => zeroVer
  else if lows (c :: r) = 0 then zeroVer
  else if (c :: r).drop (lows (c :: r)) = [] then ⟨a, b, [], c :: r, []⟩
  else match cut ((c :: r).drop (lows (c :: r))) with
    | some (q, []) => ⟨a, b, [], (c :: r).take (lows (c :: r)), q⟩
    | _ => zeroVer

def old (b : L) : Bool := decide (cmpInt b [50, 49] < 0)

def parseMinor (a : L) (r : L) : Ver :=
  match cut r with
  | none => zeroVer
  | some (b, []) => ⟨a, b, if old b = true then [48] else [], [], []⟩
  | some (b, c :: r) => parseTail a b c r

def parse (x : L) : Ver :=
  match cut x with
  | none => zeroVer
  | some (a, []) => ⟨a, [48], [48], [], []⟩
  | some (a, c :: r) => if c = 46 then parseMinor a r else zeroVer

/-! ### Which texts are versions -/

/-- The forms of valid versions. -/
inductive Form : L → Ver → Prop
  | major (a : L) : Num a → Form a ⟨a, [48], [48], [], []⟩
  | minor (a b : L) : Num a → Num b → Form (a ++ 46 :: b) ⟨a, b, if old b = true then [48] else [], [], []⟩
  | patch (a b p : L) : Num a → Num b → Num p → Form (a ++ 46 :: (b ++ 46 :: p)) ⟨a, b, p, [], []⟩
  | kind (a b k : L) : Num a → Num b → Word k → Form (a ++ 46 :: (b ++ k)) ⟨a, b, [], k, []⟩
  | pre (a b k q : L) : Num a → Num b → Word k → Num q → Form (a ++ 46 :: (b ++ (k ++ q))) ⟨a, b, [], k, q⟩

theorem noDig_dot (r : L) : noDig (46 :: r) := by
  unfold noDig digs
  rw [if_neg (by decide)]

theorem low_not_dig {c : UInt8} (h : isLow c = true) : isDig c = false := by
  rw [isLow_iff] at h; rw [isDig_false]; omega
theorem dig_not_low {c : UInt8} (h : isDig c = true) : isLow c = false := by
  rw [isDig_iff] at h; simp only [isLow, decide_eq_false_iff_not]; omega

theorem noDig_word {k : L} (h : Word k) (r : L) : noDig (k ++ r) := by
  obtain ⟨h1, h2⟩ := h
  cases k with
  | nil => exact absurd rfl h2
  | cons c k =>
    simp only [allLow, List.all_cons, Bool.and_eq_true] at h1
    simp [noDig, digs, low_not_dig h1.1]

theorem noLow_num {q : L} (h : Num q) : noLow q := by
  obtain ⟨h1, h2, _⟩ := h
  cases q with
  | nil => exact absurd rfl h2
  | cons c q =>
    simp only [allDig, List.all_cons, Bool.and_eq_true] at h1
    simp [noLow, lows, dig_not_low h1.1]

theorem parse_minorIs {a r : L} (ha : Num a) : parse (a ++ 46 :: r) = parseMinor a r := by
  unfold parse
  rw [cut_num ha (noDig_dot r)]
  simp

theorem parseMinor_tail {a b : L} {c : UInt8} {r : L} (hb : Num b) (hr : noDig (c :: r)) : parseMinor a (b ++ c :: r) = parseTail a b c r := by
  unfold parseMinor
  rw [cut_num hb hr]

theorem parseTail_word {k : L} (hk : Word k) : ∃ c r, k = c :: r ∧ c ≠ 46 := by
  obtain ⟨h1, h2⟩ := hk
  cases k with
  | nil => exact absurd rfl h2
  | cons c k =>
    simp only [allLow, List.all_cons, Bool.and_eq_true] at h1
    refine ⟨c, k, rfl, fun e => ?_⟩
    subst e
    exact absurd h1.1 (by decide)

/-- Every form is taken apart so. -/
theorem parse_form {x : L} {v : Ver} (h : Form x v) : parse x = v := by
  cases h with
  | major a ha => unfold parse; rw [cut_num_nil ha]
  | minor a b ha hb =>
    rw [parse_minorIs ha]
    unfold parseMinor
    rw [cut_num_nil hb]
  | patch a b p ha hb hp =>
    rw [parse_minorIs ha, parseMinor_tail hb (noDig_dot p)]
    unfold parseTail
    rw [if_pos rfl, cut_num_nil hp]
  | kind a b k ha hb hk =>
    rw [parse_minorIs ha]
    obtain ⟨c, r, rfl, hc⟩ := parseTail_word hk
    have hn := noDig_word hk []
    rw [List.append_nil] at hn
    rw [parseMinor_tail hb hn]
    have hl : lows (c :: r) = (c :: r).length := by
      have := lows_append_all (c :: r) [] hk.1
      simpa [lows] using this
    unfold parseTail
    rw [if_neg hc, hl]
    simp
  | pre a b k q ha hb hk hq =>
    rw [parse_minorIs ha]
    have hn := noDig_word hk q
    have hl : lows (k ++ q) = k.length := by
      rw [lows_append_all k q hk.1, noLow_num hq]; omega
    obtain ⟨c, r, rfl, hc⟩ := parseTail_word hk
    rw [List.cons_append] at hn hl ⊢
    rw [parseMinor_tail hb hn]
    unfold parseTail
    rw [if_neg hc, hl]
    have e1 : List.drop (c :: r).length (c :: (r ++ q)) = q := by simp
    have e2 : List.take (c :: r).length (c :: (r ++ q)) = c :: r := by simp
    rw [e1, e2, if_neg (by simp), if_neg hq.2.1, cut_num_nil hq]

/-- What is taken apart is of a form, or it comes to nothing. -/
theorem parse_cases (x : L) : parse x = zeroVer ∨ Form x (parse x) := by
  unfold parse
  cases hx : cut x with
  | none => exact Or.inl rfl
  | some ar =>
    obtain ⟨a, r⟩ := ar
    obtain ⟨ha, hn, rfl⟩ := cut_some hx
    cases r with
    | nil => simp only [List.append_nil]; exact Or.inr (Form.major a ha)
    | cons c r =>
      simp only []
      by_cases hc : c = 46
      · subst hc
        rw [if_pos rfl]
        unfold parseMinor
        cases hr : cut r with
        | none => exact Or.inl rfl
        | some bs =>
          obtain ⟨b, s⟩ := bs
          obtain ⟨hb, hm, rfl⟩ := cut_some hr
          cases s with
          | nil => simp only [List.append_nil]; exact Or.inr (Form.minor a b ha hb)
          | cons d s =>
            simp only []
            unfold parseTail
            by_cases hd : d = 46
            · subst hd
              rw [if_pos rfl]
              cases hs : cut s with
              | none => exact Or.inl rfl
              | some pt =>
                obtain ⟨p, t⟩ := pt
                obtain ⟨hp, _, rfl⟩ := cut_some hs
                cases t with
                | nil => simp only [List.append_nil]; exact Or.inr (Form.patch a b p ha hb hp)
                | cons => exact Or.inl rfl
            · rw [if_neg hd]
              by_cases h0 : lows (d :: s) = 0
              · rw [if_pos h0]; exact Or.inl rfl
              · rw [if_neg h0]
                have hsplit := List.take_append_drop (lows (d :: s)) (d :: s)
                have hw : Word ((d :: s).take (lows (d :: s))) := ⟨allLow_take _, fun e => by
                  have := congrArg List.length e
                  have hl := lows_le (d :: s)
                  simp only [List.length_take, List.length_nil] at this
                  omega⟩
                by_cases he : (d :: s).drop (lows (d :: s)) = []
                · rw [if_pos he]
                  rw [he, List.append_nil] at hsplit
                  rw [hsplit] at hw
                  exact Or.inr (Form.kind a b (d :: s) ha hb hw)
                · rw [if_neg he]
                  cases hs : cut ((d :: s).drop (lows (d :: s))) with
                  | none => exact Or.inl rfl
                  | some pt =>
                    obtain ⟨q, t⟩ := pt
                    obtain ⟨hq, _, hqe⟩ := cut_some hs
                    cases t with
                    | nil =>
                      rw [List.append_nil] at hqe
                      rw [hqe] at hsplit
                      have := Form.pre a b _ q ha hb hw hq
                      rw [hsplit] at this
                      exact Or.inr this
                    | cons => exact Or.inl rfl
      · rw [if_neg hc]; exact Or.inl rfl

theorem form_ne {x : L} {v : Ver} (h : Form x v) : v.major ≠ [] := by
  cases h with
  | major a ha => exact ha.2.1
  | minor a b ha => exact ha.2.1
  | patch a b p ha => exact ha.2.1
  | kind a b k ha => exact ha.2.1
  | pre a b k q ha => exact ha.2.1

theorem zero_major : zeroVer.major = [] := rfl

/-- Is it the zero version? -/
theorem parse_zero_iff (x : L) : parse x = zeroVer ↔ (parse x).major = [] := by
  constructor
  · intro h; rw [h]; rfl
  · intro h
    rcases parse_cases x with h1 | h1
    · exact h1
    · exact absurd h (form_ne h1)

/-- The parts of a valid version. -/
theorem form_parts {x : L} {v : Ver} (h : Form x v) : Num v.major ∧ Num v.minor ∧ (v.patch = [] ∨ Num v.patch) ∧ (v.pre = [] ∨ Num v.pre) ∧ (v.kind ≠ [] ∨ v.pre = []) ∧ (v.kind = [] ∨ v.patch = []) ∧ (v.kind = [] ∨ Word v.kind) := by
  have z : Num [48] := ⟨by decide, by simp, by simp⟩
  cases h with
  | major a ha => exact ⟨ha, z, Or.inr z, Or.inl rfl, Or.inr rfl, Or.inl rfl, Or.inl rfl⟩
  | minor a b ha hb =>
    refine ⟨ha, hb, ?_, Or.inl rfl, Or.inr rfl, Or.inl rfl, Or.inl rfl⟩
    by_cases h : old b = true
    · simp only [h, if_true]; exact Or.inr z
    · simp only [h]; exact Or.inl rfl
  | patch a b p ha hb hp => exact ⟨ha, hb, Or.inr hp, Or.inl rfl, Or.inr rfl, Or.inl rfl, Or.inl rfl⟩
  | kind a b k ha hb hk => exact ⟨ha, hb, Or.inl rfl, Or.inl rfl, Or.inr rfl, Or.inr rfl, Or.inr hk⟩
  | pre a b k q ha hb hk hq => exact ⟨ha, hb, Or.inl rfl, Or.inr hq, Or.inl hk.2, Or.inr rfl, Or.inr hk⟩

/-! ### Written again -/

def textV (v : Ver) : L :=
  v.major ++ (if v.minor = [] then [] else 46 :: v.minor) ++ (if v.patch = [] then [] else 46 :: v.patch) ++ v.kind ++ v.pre

theorem form_text {x : L} {v : Ver} (h : Form x v) : Form (textV v) v := by
  have z : Num [48] := ⟨by decide, by simp, by simp⟩
  cases h with
  | major a ha =>
    have := Form.patch _ [48] [48] ha z z
    simpa [textV] using this
  | minor a b ha hb =>
    by_cases h : old b = true
    · have := Form.patch a b [48] ha hb z
      simpa [textV, h, hb.2.1] using this
    · have := Form.minor a b ha hb
      simpa [textV, h, hb.2.1] using this
  | patch a b p ha hb hp =>
    have := Form.patch a b p ha hb hp
    simpa [textV, hb.2.1, hp.2.1] using this
  | kind a b k ha hb hk =>
    have := Form.kind a b k ha hb hk
    simpa [textV, hb.2.1] using this
  | pre a b k q ha hb hk hq =>
    have := Form.pre a b k q ha hb hk hq
    simpa [textV, hb.2.1] using this

/-! ### Compared -/

def cmpV (v w : Ver) : Int :=
  lexc (cmpInt v.major w.major) (lexc (cmpInt v.minor w.minor) (lexc (cmpInt v.patch w.patch) (lexc (cmpStr v.kind w.kind) (cmpInt v.pre w.pre))))

theorem isCmp_cmpV : IsCmp cmpV := by
  have h := IsCmp.lex isCmp_cmpInt (IsCmp.lex isCmp_cmpInt (IsCmp.lex isCmp_cmpInt (IsCmp.lex isCmp_cmpStr isCmp_cmpInt)))
  let k : Ver → L × L × L × L × L := fun v => (v.major, v.minor, v.patch, v.kind, v.pre)
  refine ⟨fun x y => ?_, fun x y => h.anti (k x) (k y), fun x y => h.range (k x) (k y), fun x y z => h.trans (k x) (k y) (k z)⟩
  rw [show cmpV x y = _ from rfl]
  refine (h.zero (k x) (k y)).trans ?_
  simp only [k, Prod.mk.injEq]
  constructor
  · rintro ⟨h1, h2, h3, h4, h5⟩; exact Ver.ext5 h1 h2 h3 h4 h5
  · rintro rfl; exact ⟨rfl, rfl, rfl, rfl, rfl⟩

def cmpX (x y : L) : Int := cmpV (parse x) (parse y)

theorem cmpX_self (x : L) : cmpX x x = 0 := isCmp_cmpV.self _
theorem cmpX_anti (x y : L) : cmpX y x = - cmpX x y := isCmp_cmpV.anti _ _
theorem cmpX_range (x y : L) : cmpX x y = -1 ∨ cmpX x y = 0 ∨ cmpX x y = 1 := isCmp_cmpV.range _ _
theorem cmpX_zero (x y : L) : cmpX x y = 0 ↔ parse x = parse y := isCmp_cmpV.zero _ _
theorem cmpX_chain {x y z : L} (h1 : cmpX x y ≤ 0) (h2 : cmpX y z ≤ 0) : cmpX x z ≤ 0 ∧ (cmpX x z = 0 ↔ cmpX x y = 0 ∧ cmpX y z = 0) := isCmp_cmpV.chain h1 h2

theorem cmpInt_nil_num {a : L} (h : a ≠ []) : cmpInt a [] = 1 := by
  unfold cmpInt
  have : 0 < a.length := len_pos h
  rw [if_neg h, if_neg (by simp), if_pos (by simpa using this)]

theorem cmpInt_nil_left {a : L} (h : a ≠ []) : cmpInt [] a = -1 := by
  unfold cmpInt
  have : 0 < a.length := len_pos h
  rw [if_neg (fun e => h e.symm), if_pos (by simpa using this)]

/-- A version that is valid is greater than one that is not. -/
theorem cmpX_valid_not {x y : L} (hx : parse x ≠ zeroVer) (hy : parse y = zeroVer) : cmpX x y = 1 := by
  have h : (parse x).major ≠ [] := fun e => hx ((parse_zero_iff x).2 e)
  unfold cmpX cmpV
  rw [hy, zero_major, cmpInt_nil_num h]
  rfl
theorem cmpX_not_valid {x y : L} (hx : parse x = zeroVer) (hy : parse y ≠ zeroVer) : cmpX x y = -1 := by
  rw [cmpX_anti y x, cmpX_valid_not hy hx]
theorem cmpX_not_not {x y : L} (hx : parse x = zeroVer) (hy : parse y = zeroVer) : cmpX x y = 0 := by
  rw [cmpX_zero, hx, hy]

/-! ### The language's version -/

def langV (v : Ver) : L := if v.minor = [] ∨ (v.major = [49] ∧ v.minor = [48]) then v.major else v.major ++ 46 :: v.minor
def langX (x : L) : L := langV (parse x)

/-! ### Versions that are written of numbers and a stage -/

def kindOf (s : Nat) : L := if s % 5 = 1 then [97, 108, 112, 104, 97] else if s % 5 = 2 then [98, 101, 116, 97] else if s % 5 = 3 then [114, 99] else []

def langOf (a b : Nat) : L := dec a ++ 46 :: dec b

def textOf (a b s n : Nat) : L :=
  if s % 5 = 0 then langOf a b else if s % 5 = 4 then langOf a b ++ 46 :: dec n else langOf a b ++ kindOf s ++ dec n

def verOf (a b s n : Nat) : Ver :=
  if s % 5 = 0 then ⟨dec a, dec b, [], [], []⟩ else if s % 5 = 4 then ⟨dec a, dec b, dec n, [], []⟩ else ⟨dec a, dec b, [], kindOf s, dec n⟩

theorem word_kindOf {s : Nat} (h0 : s % 5 ≠ 0) (h4 : s % 5 ≠ 4) : Word (kindOf s) := by
  have : s % 5 = 1 ∨ s % 5 = 2 ∨ s % 5 = 3 := by omega
  unfold kindOf
  rcases this with h | h | h
  · rw [if_pos h]; exact ⟨by decide, by simp⟩
  · rw [if_neg (by omega), if_pos h]; exact ⟨by decide, by simp⟩
  · rw [if_neg (by omega), if_neg (by omega), if_pos h]; exact ⟨by decide, by simp⟩

theorem dec21 : dec 21 = [50, 49] := by
  rw [dec_big (by omega), dec_small (by omega)]; rfl

theorem old_dec (b : Nat) : old (dec b) = decide (b < 21) := by
  unfold old
  rw [← dec21, cmpInt_dec]
  unfold ord
  by_cases h : b < 21
  · simp [h]
  · by_cases h2 : 21 < b <;> simp [h, h2]

theorem parse_langOf (a b : Nat) : parse (langOf a b) = ⟨dec a, dec b, if b < 21 then [48] else [], [], []⟩ := by
  have := parse_form (Form.minor (dec a) (dec b) (num_dec a) (num_dec b))
  rw [old_dec] at this
  simpa [langOf] using this

theorem parse_textOf (a b s n : Nat) (h : s % 5 ≠ 0 ∨ 21 ≤ b) : parse (textOf a b s n) = verOf a b s n := by
  unfold textOf verOf
  by_cases h0 : s % 5 = 0
  · rw [if_pos h0, if_pos h0, parse_langOf, if_neg (by omega)]
  · rw [if_neg h0, if_neg h0]
    by_cases h4 : s % 5 = 4
    · rw [if_pos h4, if_pos h4]
      have := parse_form (Form.patch (dec a) (dec b) (dec n) (num_dec a) (num_dec b) (num_dec n))
      simpa [langOf] using this
    · rw [if_neg h4, if_neg h4]
      have := parse_form (Form.pre (dec a) (dec b) (kindOf s) (dec n) (num_dec a) (num_dec b) (word_kindOf h0 h4) (num_dec n))
      simpa [langOf] using this

theorem textOf_major (a b s n : Nat) : (parse (textOf a b s n)).major = dec a ∧ (parse (textOf a b s n)).minor = dec b := by
  by_cases h : s % 5 ≠ 0 ∨ 21 ≤ b
  · rw [parse_textOf a b s n h]
    unfold verOf
    split
    · exact ⟨rfl, rfl⟩
    · split <;> exact ⟨rfl, rfl⟩
  · have h0 : s % 5 = 0 := by omega
    have : textOf a b s n = langOf a b := by unfold textOf; rw [if_pos h0]
    rw [this, parse_langOf]
    exact ⟨rfl, rfl⟩

theorem textOf_valid (a b s n : Nat) : parse (textOf a b s n) ≠ zeroVer := by
  intro e
  have := (textOf_major a b s n).1
  rw [e] at this
  exact (num_dec a).2.1 this.symm

/-- The order of two such versions, by their numbers. -/
def orderOf (a b s n a' b' s' n' : Nat) : Int :=
  lexc (ord a a') (lexc (ord b b') (if ord (s % 5) (s' % 5) ≠ 0 ∨ s % 5 = 0 then ord (s % 5) (s' % 5) else ord n n'))

theorem stage_cases (s : Nat) : s % 5 = 0 ∨ s % 5 = 1 ∨ s % 5 = 2 ∨ s % 5 = 3 ∨ s % 5 = 4 := by omega

theorem cmpV_verOf (a b s n a' b' s' n' : Nat) : cmpV (verOf a b s n) (verOf a' b' s' n') = orderOf a b s n a' b' s' n' := by
  have hN := cmpInt_nil_num (num_dec n).2.1
  have hN' := cmpInt_nil_left (num_dec n').2.1
  have hM' := cmpInt_nil_num (num_dec n').2.1
  have e00 : cmpInt [] [] = 0 := rfl
  have m1 : (verOf a b s n).major = dec a := by unfold verOf; split; rfl; split <;> rfl
  have m2 : (verOf a b s n).minor = dec b := by unfold verOf; split; rfl; split <;> rfl
  have m1' : (verOf a' b' s' n').major = dec a' := by unfold verOf; split; rfl; split <;> rfl
  have m2' : (verOf a' b' s' n').minor = dec b' := by unfold verOf; split; rfl; split <;> rfl
  unfold cmpV orderOf
  rw [m1, m2, m1', m2', cmpInt_dec, cmpInt_dec]
  congr 2
  have k12 : cmpStr [97, 108, 112, 104, 97] [98, 101, 116, 97] = -1 := by decide
  have k13 : cmpStr [97, 108, 112, 104, 97] [114, 99] = -1 := by decide
  have k23 : cmpStr [98, 101, 116, 97] [114, 99] = -1 := by decide
  have k21 : cmpStr [98, 101, 116, 97] [97, 108, 112, 104, 97] = 1 := by decide
  have k31 : cmpStr [114, 99] [97, 108, 112, 104, 97] = 1 := by decide
  have k32 : cmpStr [114, 99] [98, 101, 116, 97] = 1 := by decide
  have k01 : cmpStr [] [97, 108, 112, 104, 97] = -1 := by decide
  have k02 : cmpStr [] [98, 101, 116, 97] = -1 := by decide
  have k03 : cmpStr [] [114, 99] = -1 := by decide
  have k10 : cmpStr [97, 108, 112, 104, 97] [] = 1 := by decide
  have k20 : cmpStr [98, 101, 116, 97] [] = 1 := by decide
  have k30 : cmpStr [114, 99] [] = 1 := by decide
  have kk : ∀ k, cmpStr k k = 0 := fun k => isCmp_cmpStr.self k
  rcases stage_cases s with h | h | h | h | h <;> rcases stage_cases s' with h' | h' | h' | h' | h' <;>
    simp [verOf, h, h', lexc, ord, kindOf, hN, hN', e00, cmpInt_dec, k12, k13, k23, k21, k31, k32, k01, k02, k03, k10, k20, k30, kk] <;> exact fun e => e.symm
end Go.Proofs.Ytdkcpjlcpfkehab.Plain
