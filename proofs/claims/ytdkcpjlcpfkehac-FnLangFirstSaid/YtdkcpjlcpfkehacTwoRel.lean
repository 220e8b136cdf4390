/- The world behind the boxes of two releases. -/
import Derived.Test.YtdkcpjlcpfkehacRelLaw
import Derived.Lib.QuietBelow
namespace Go.Proofs.Ytdkcpjlcpfkehac
open Go.RowKit Plain
open Go.Sort (grow)

theorem emp' {m : List UInt8} (h : m ≠ []) : m.isEmpty = false := by cases m with | nil => exact absurd rfl h | cons => rfl

theorem two_cells (w : World) (a b s n : Nat) (Y : Obj) :
    ((w.alloc (.cells #[.int .u32 a, .int .u32 b, .int .u8 s, .int .u32 n] 26)).alloc Y).cell? ⟨w.heap.size, 0, none⟩ = some (.int .u32 a) ∧
    ((w.alloc (.cells #[.int .u32 a, .int .u32 b, .int .u8 s, .int .u32 n] 26)).alloc Y).cell? ⟨w.heap.size, 1, none⟩ = some (.int .u32 b) ∧
    ((w.alloc (.cells #[.int .u32 a, .int .u32 b, .int .u8 s, .int .u32 n] 26)).alloc Y).cell? ⟨w.heap.size, 2, none⟩ = some (.int .u8 s) ∧
    ((w.alloc (.cells #[.int .u32 a, .int .u32 b, .int .u8 s, .int .u32 n] 26)).alloc Y).cell? ⟨w.heap.size, 3, none⟩ = some (.int .u32 n) := by
  obtain ⟨c0, c1, c2, c3⟩ := rel_cells w a b s n
  have h : w.heap.size < (w.alloc (.cells #[.int .u32 a, .int .u32 b, .int .u8 s, .int .u32 n] 26)).heap.size := by simp
  exact ⟨(World.cell?_alloc_lt _ _ _ h).trans c0, (World.cell?_alloc_lt _ _ _ h).trans c1, (World.cell?_alloc_lt _ _ _ h).trans c2, (World.cell?_alloc_lt _ _ _ h).trans c3⟩

theorem two_cells' (w : World) (X : Obj) (a b s n : Nat) :
    ((w.alloc X).alloc (.cells #[.int .u32 a, .int .u32 b, .int .u8 s, .int .u32 n] 26)).cell? ⟨w.heap.size + 1, 0, none⟩ = some (.int .u32 a) ∧
    ((w.alloc X).alloc (.cells #[.int .u32 a, .int .u32 b, .int .u8 s, .int .u32 n] 26)).cell? ⟨w.heap.size + 1, 1, none⟩ = some (.int .u32 b) ∧
    ((w.alloc X).alloc (.cells #[.int .u32 a, .int .u32 b, .int .u8 s, .int .u32 n] 26)).cell? ⟨w.heap.size + 1, 2, none⟩ = some (.int .u8 s) ∧
    ((w.alloc X).alloc (.cells #[.int .u32 a, .int .u32 b, .int .u8 s, .int .u32 n] 26)).cell? ⟨w.heap.size + 1, 3, none⟩ = some (.int .u32 n) := by
  have h := rel_cells (w.alloc X) a b s n
  rw [World.size_alloc] at h
  exact h
end Go.Proofs.Ytdkcpjlcpfkehac
