/- How the walk reads texts that are made of a list of bytes: their length, bytes, parts and sums; and what goes with versions. -/
import Derived.Test.YtdkcpjlcpfkehaaCut
import Derived.Test.YtdkcpjlcpfkehaaCmp
namespace Go.Proofs.Ytdkcpjlcpfkehaa
open Go.RowKit Plain

theorem mk_append (a b : List UInt8) : mk a ++ mk b = mk (a ++ b) := ByteArray.mk_append_mk a b
theorem mk_append_const (a : List UInt8) (c : Array UInt8) : mk a ++ (⟨c⟩ : ByteArray) = mk (a ++ c.toList) := by
  have := ByteArray.mk_append_mk a c.toList
  simpa [mk] using this
theorem const_append_mk (a : List UInt8) (c : Array UInt8) : (⟨c⟩ : ByteArray) ++ mk a = mk (c.toList ++ a) := by
  have := ByteArray.mk_append_mk c.toList a
  simpa [mk] using this
theorem mk_get (l : List UInt8) (i : Nat) (h : i < (mk l).size) : (mk l)[i]'h = l[i]'(by rw [mk_size] at h; exact h) := get_data (mk l) i h _
theorem mk_extract_to (l : List UInt8) (b : Nat) : (mk l).extract 0 b = mk (l.take b) := mk_eq (extract_take (mk l) b)
theorem mk_extract_from (l : List UInt8) (a : Nat) : (mk l).extract a l.length = mk (l.drop a) := by
  have := mk_eq (extract_drop (mk l) a)
  rw [mk_size, mk_data] at this
  exact this

theorem mk_extract_tail (c : UInt8) (r : List UInt8) : (mk (c :: r)).extract 1 (r.length + 1) = mk r := mk_extract_from (c :: r) 1

/-- Draws are written outermost, as the walk writes them. -/
theorem setCell_drewN (w : World) (n : Nat) (a : Addr) (v : Value) : (w.drewN n).setCell a v = (w.setCell a v).drewN n := rfl
theorem alloc_drewN (w : World) (n : Nat) (o : Obj) : (w.drewN n).alloc o = (w.alloc o).drewN n := rfl
theorem drewN_below {B : Nat} {a w : World} (h : Below B a w) (n : Nat) : Below B a (w.drewN n) := ⟨h.os, h.tape, h.output, h.size, h.block⟩

attribute [go_sem] setCell_drewN alloc_drewN
attribute [go_sem] mk_toList mk_size mk_append mk_append_const const_append_mk mk_get mk_extract_to mk_extract_from mk_extract_tail

theorem gcutL_yes (l a r : List UInt8) (w : World) (hl : l.length ≤ 140737488351232) (h : cut l = some (a, r)) :
    Calls Try.prog 30 #[.string (mk l)] w fun e w' => e = .returned (.tuple #[.string (mk a), .string (mk r), .bool true]) ∧ Drawn w w' := by
  unfold cut at h
  split at h
  · rename_i hc
    simp only [Option.some.injEq, Prod.mk.injEq] at h
    obtain ⟨rfl, rfl⟩ := h
    exact gcutInt_yes (mk l) w (by rw [mk_size]; exact hl) hc
  · simp at h

theorem gcutL_no (l : List UInt8) (w : World) (hl : l.length ≤ 140737488351232) (h : cut l = none) :
    Calls Try.prog 30 #[.string (mk l)] w fun e w' => e = .returned (.tuple #[.string (mk []), .string (mk []), .bool false]) ∧ w = w' := by
  unfold cut at h
  split at h
  · simp at h
  · rename_i hc
    exact gcutInt_no (mk l) w (by rw [mk_size]; exact hl) (by rw [mk_data]; simpa using hc)

theorem gCmpIntL (x y : List UInt8) (w : World) : Calls Try.prog 21 #[.string (mk x), .string (mk y)] w fun e w' => e = .returned (.int .i64 (cmpInt x y)) ∧ w = w' := gCmpInt (mk x) (mk y) w

/-- A version as a value. -/
def verV (v : Ver) : Value := .agg #[.string (mk v.major), .string (mk v.minor), .string (mk v.patch), .string (mk v.kind), .string (mk v.pre)]

theorem cut_len {l a r : List UInt8} (h : cut l = some (a, r)) : a.length + r.length = l.length := by
  obtain ⟨_, _, rfl⟩ := cut_some h
  simp
end Go.Proofs.Ytdkcpjlcpfkehaa
