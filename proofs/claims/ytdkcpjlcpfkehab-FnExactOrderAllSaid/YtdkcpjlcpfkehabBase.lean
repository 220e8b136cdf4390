/- Small words that all walks share: a text made of a list of bytes, and how the model's tests on texts read on lists. -/
import Derived.Test.YtdkcpjlcpfkehabRows
import Derived.WalkKit
import Derived.WalkSpells
import Derived.WalkLawsBesides
import Derived.Handy
import Derived.Lib.Hide
import Derived.Test.YtdkcpjlcpfkehabPlain3
namespace Go.Proofs.Ytdkcpjlcpfkehab
open Go.RowKit

/-- The text whose bytes are l. -/
def mk (l : List UInt8) : ByteArray := ⟨l.toArray⟩

theorem mk_data (l : List UInt8) : (mk l).data.toList = l := rfl
theorem mk_of (s : ByteArray) : mk s.data.toList = s := rfl
theorem mk_eq {s : ByteArray} {l : List UInt8} (h : s.data.toList = l) : s = mk l := by subst h; rfl
theorem mk_size (l : List UInt8) : (mk l).size = l.length := by simp [mk, ByteArray.size]
theorem size_len (s : ByteArray) : s.size = s.data.toList.length := by rw [Array.length_toList]; rfl
theorem toList_data (s : ByteArray) : s.toList = s.data.toList := ByteArray.toList_eq s
theorem mk_toList (l : List UInt8) : (mk l).toList = l := by rw [toList_data, mk_data]

theorem get_data (s : ByteArray) (k : Nat) (h : k < s.size) (hl : k < s.data.toList.length) : s[k]'h = s.data.toList[k]'hl := by
  rw [Array.getElem_toList]
  rfl

theorem extract_data (s : ByteArray) (a b : Nat) : (s.extract a b).data.toList = (s.data.toList.drop a).take (b - a) := by
  rw [ByteArray.data_extract]
  simp

theorem extract_take (s : ByteArray) (b : Nat) : (s.extract 0 b).data.toList = s.data.toList.take b := by
  rw [extract_data]; simp
theorem extract_drop (s : ByteArray) (a : Nat) : (s.extract a s.size).data.toList = s.data.toList.drop a := by
  rw [extract_data, size_len, List.take_of_length_le (by simp)]

theorem bytesLess_iff : ∀ (x y : List UInt8), Op.bytesLess x y = decide (x < y)
  | [], [] => by simp [Op.bytesLess]
  | _ :: _, [] => by simp [Op.bytesLess]
  | [], _ :: _ => by simp [Op.bytesLess]
  | a :: x, b :: y => by
    rw [Op.bytesLess, bytesLess_iff x y]
    simp only [List.cons_lt_cons_iff]
    by_cases h1 : a < b <;> by_cases h2 : a = b <;> by_cases h3 : x < y <;> simp [h1, h2, h3]

theorem ret_int {k : IntKind} {a b : Int} (h : a = b) : Ending.returned (.int k a) = .returned (.int k b) := by rw [h]
theorem ret_str {a b : ByteArray} (h : a = b) : Ending.returned (.string a) = .returned (.string b) := by rw [h]
theorem ret_bool {a b : Bool} (h : a = b) : Ending.returned (.bool a) = .returned (.bool b) := by rw [h]

end Go.Proofs.Ytdkcpjlcpfkehab
