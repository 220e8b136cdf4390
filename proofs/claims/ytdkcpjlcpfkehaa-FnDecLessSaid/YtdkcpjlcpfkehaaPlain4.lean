/- Plain law, no Go in sight: what a row of bytes holds while its tail is turned from one byte to another, place by place from the right. -/
import Derived.Test.YtdkcpjlcpfkehaaPlain3
namespace Go.Proofs.Ytdkcpjlcpfkehaa.Plain

theorem set_mid (x y : L) (a b : UInt8) : (x ++ a :: y).set x.length b = x ++ b :: y := by
  induction x with
  | nil => rfl
  | cons c x ih => simp [ih]

theorem get_mid (x y : L) (a : UInt8) (h : x.length < (x ++ a :: y).length) : (x ++ a :: y)[x.length]'h = a := by
  simp

/-- p, d, then k places of which the last j are turned from a to b. -/
def tailAt (p : L) (d a b : UInt8) (k j : Nat) : L := p ++ d :: (List.replicate (k - j) a ++ List.replicate j b)

theorem tailAt_zero (p : L) (d a b : UInt8) (k : Nat) : tailAt p d a b k 0 = p ++ d :: List.replicate k a := by simp [tailAt]
theorem tailAt_full (p : L) (d a b : UInt8) (k : Nat) : tailAt p d a b k k = p ++ d :: List.replicate k b := by simp [tailAt]
theorem tailAt_length (p : L) (d a b : UInt8) {k j : Nat} (h : j ≤ k) : (tailAt p d a b k j).length = p.length + 1 + k := by
  simp [tailAt]; omega

theorem tailAt_split (p : L) (d a b : UInt8) {k j : Nat} (h : j < k) : tailAt p d a b k j = (p ++ d :: List.replicate (k - j - 1) a) ++ a :: List.replicate j b := by
  unfold tailAt
  obtain ⟨m, hm⟩ : ∃ m, k - j = m + 1 := ⟨k - j - 1, by omega⟩
  rw [hm, List.replicate_succ', Nat.add_sub_cancel]
  simp

theorem tailAt_next (p : L) (d a b : UInt8) {k j : Nat} : (p ++ d :: List.replicate (k - j - 1) a) ++ b :: List.replicate j b = tailAt p d a b k (j + 1) := by
  unfold tailAt
  have e : k - (j + 1) = k - j - 1 := by omega
  rw [e, List.replicate_succ]
  simp

theorem tailAt_index (p : L) (d a : UInt8) {k j : Nat} (h : j < k) : (p ++ d :: List.replicate (k - j - 1) a).length = p.length + (k - j) := by
  simp; omega

theorem tailAt_set (p : L) (d a b : UInt8) {k j : Nat} (h : j < k) : (tailAt p d a b k j).set (p.length + (k - j)) b = tailAt p d a b k (j + 1) := by
  rw [tailAt_split p d a b h, ← tailAt_index p d a h, set_mid, tailAt_next p d a b]

theorem tailAt_get (p : L) (d a b : UInt8) {k j : Nat} (h : j < k) (hl : p.length + (k - j) < (tailAt p d a b k j).length) : (tailAt p d a b k j)[p.length + (k - j)]'hl = a := by
  have key : ∀ (l : L) (i : Nat) (hi : i < l.length), l = (p ++ d :: List.replicate (k - j - 1) a) ++ a :: List.replicate j b → i = (p ++ d :: List.replicate (k - j - 1) a).length → l[i]'hi = a := by
    rintro l i hi rfl rfl
    exact get_mid _ _ _ _
  exact key _ _ hl (tailAt_split p d a b h) (tailAt_index p d a h).symm

theorem tailAt_head (p : L) (d a b : UInt8) (k : Nat) (hl : p.length < (tailAt p d a b k k).length) : (tailAt p d a b k k)[p.length]'hl = d := get_mid _ _ _ _
theorem tailAt_headSet (p : L) (d a b c : UInt8) (k : Nat) : (tailAt p d a b k k).set p.length c = p ++ c :: List.replicate k b := by
  rw [tailAt_full, set_mid]

/-- n places of which the last j are turned. -/
def tailZ (a b : UInt8) (n j : Nat) : L := List.replicate (n - j) a ++ List.replicate j b
theorem tailZ_zero (a b : UInt8) (n : Nat) : tailZ a b n 0 = List.replicate n a := by simp [tailZ]
theorem tailZ_full (a b : UInt8) (n : Nat) : tailZ a b n n = List.replicate n b := by simp [tailZ]
theorem tailZ_length (a b : UInt8) {n j : Nat} (h : j ≤ n) : (tailZ a b n j).length = n := by simp [tailZ]; omega
theorem tailZ_split (a b : UInt8) {n j : Nat} (h : j < n) : tailZ a b n j = List.replicate (n - 1 - j) a ++ a :: List.replicate j b := by
  unfold tailZ
  obtain ⟨m, hm⟩ : ∃ m, n - j = m + 1 := ⟨n - j - 1, by omega⟩
  have : n - 1 - j = m := by omega
  rw [hm, this, List.replicate_succ']
  simp
theorem tailZ_set (a b : UInt8) {n j : Nat} (h : j < n) : (tailZ a b n j).set (n - 1 - j) b = tailZ a b n (j + 1) := by
  have e : (List.replicate (n - 1 - j) a).length = n - 1 - j := by simp
  have := set_mid (List.replicate (n - 1 - j) a) (List.replicate j b) a b
  rw [e] at this
  rw [tailZ_split a b h, this]
  unfold tailZ
  have e2 : n - (j + 1) = n - 1 - j := by omega
  rw [e2, List.replicate_succ]
theorem tailZ_get (a b : UInt8) {n j : Nat} (h : j < n) (hl : n - 1 - j < (tailZ a b n j).length) : (tailZ a b n j)[n - 1 - j]'hl = a := by
  have key : ∀ (l : L) (i : Nat) (hi : i < l.length), l = List.replicate (n - 1 - j) a ++ a :: List.replicate j b → i = (List.replicate (n - 1 - j) a).length → l[i]'hi = a := by
    rintro l i hi rfl rfl
    exact get_mid _ _ _ _
  exact key _ _ hl (tailZ_split a b h) (by simp)

theorem toNat_succ {d : UInt8} (h : d.toNat < 57) : (d + 1).toNat = d.toNat + 1 := by
  rw [UInt8.toNat_add]
  have : (1 : UInt8).toNat = 1 := rfl
  rw [this]
  omega

end Go.Proofs.Ytdkcpjlcpfkehaa.Plain
