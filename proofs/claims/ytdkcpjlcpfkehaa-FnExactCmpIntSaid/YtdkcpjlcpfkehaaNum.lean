/- The walk of the reference's Numbers. -/
import Derived.Test.YtdkcpjlcpfkehaaCut
import Derived.Test.YtdkcpjlcpfkehaaOrd
namespace Go.Proofs.Ytdkcpjlcpfkehaa
open Go.RowKit Plain

theorem append_lt_iff (p : List UInt8) (a b : List UInt8) : p ++ a < p ++ b ↔ a < b := by
  induction p with
  | nil => exact Iff.rfl
  | cons c p ih =>
    rw [List.cons_append, List.cons_append, List.cons_lt_cons_iff, ih]
    constructor
    · rintro (h | ⟨_, h⟩)
      · exact absurd h (UInt8.lt_irrefl c)
      · exact h
    · exact fun h => Or.inr ⟨rfl, h⟩

/-- Two texts of one length that part at place k. -/
theorem cmpInt_part {x y : List UInt8} (hl : x.length = y.length) {k : Nat} (hx : k < x.length) (hy : k < y.length) (ht : x.take k = y.take k) (hne : x[k].toNat ≠ y[k].toNat) :
    cmpInt x y = ord x[k].toNat y[k].toNat := by
  have ex := (List.take_append_drop k x).symm
  have ey := (List.take_append_drop k y).symm
  rw [List.drop_eq_getElem_cons hx] at ex
  rw [List.drop_eq_getElem_cons hy, ← ht] at ey
  generalize x[k] = c at *
  generalize y[k] = d at *
  have hcd : c ≠ d := fun e => hne (by rw [e])
  have hxy : x ≠ y := by
    intro e
    rw [ex, ey] at e
    have := List.append_cancel_left e
    simp at this
    exact hcd this.1
  have hlt : x < y ↔ c.toNat < d.toNat := by
    rw [ex, ey, append_lt_iff, List.cons_lt_cons_iff, UInt8.lt_iff_toNat_lt]
    constructor
    · rintro (h | ⟨h, _⟩)
      · exact h
      · exact absurd h hcd
    · exact Or.inl
  unfold cmpInt ord
  rw [if_neg hxy, if_neg (by omega), if_neg (by omega)]
  by_cases h : c.toNat < d.toNat
  · rw [if_pos (hlt.2 h), if_pos h]
  · rw [if_neg (fun h' => h (hlt.1 h')), if_neg h, if_pos (by omega)]

theorem take_same {x y : ByteArray} {k : Nat} (hx : k < x.size) (hy : k < y.size) (ht : x.data.toList.take k = y.data.toList.take k) (he : x[k].toNat = y[k].toNat) :
    x.data.toList.take (k + 1) = y.data.toList.take (k + 1) := by
  have lx : k < x.data.toList.length := by have := size_len x; omega
  have ly : k < y.data.toList.length := by have := size_len y; omega
  rw [List.take_succ_eq_append_getElem lx, List.take_succ_eq_append_getElem ly, ht, ← get_data x k hx lx, ← get_data y k hy ly, UInt8.toNat_inj.1 he]

set_option maxHeartbeats 1000000 in
theorem sNumbers (x y : ByteArray) (w : World) (hx : x.size ≤ 140737488351232) :
    Calls Try.prog 11 #[.string x, .string y] w fun e w' => e = .returned (.int .i64 (cmpInt x.data.toList y.data.toList)) ∧ Drawn w w' := by
  have zx := size_len x
  have zy := size_len y
  by_cases h1 : x.size < y.size
  · have hv : cmpInt x.data.toList y.data.toList = -1 := by
      unfold cmpInt
      rw [if_neg (fun e => by rw [e] at zx; omega), if_pos (by omega)]
    rw [hv]
    clear hv zx zy
    go_enter Try.func11, Try.ntmps11
    go_wp2
    go_ret
    exact ⟨rfl, 0, rfl⟩
  · by_cases h2 : y.size < x.size
    · have hv : cmpInt x.data.toList y.data.toList = 1 := by
        unfold cmpInt
        rw [if_neg (fun e => by rw [e] at zx; omega), if_neg (by omega), if_pos (by omega)]
      rw [hv]
      clear hv zx zy
      go_enter Try.func11, Try.ntmps11
      go_wp2
      go_ret
      exact ⟨rfl, 0, rfl⟩
    · have HV : Hid (∀ k (h : k < x.size) (h' : k < y.size), x.data.toList.take k = y.data.toList.take k → x[k].toNat ≠ y[k].toNat → cmpInt x.data.toList y.data.toList = ord x[k].toNat y[k].toNat) := fun k h h' ht hne => by
        have lx : k < x.data.toList.length := by omega
        have ly : k < y.data.toList.length := by omega
        rw [get_data x k h lx, get_data y k h' ly] at *
        exact cmpInt_part (by omega) lx ly ht hne
      have HE : Hid (x.data.toList.take x.size = y.data.toList.take x.size → cmpInt x.data.toList y.data.toList = 0) := fun h => by
        rw [List.take_of_length_le (by omega), List.take_of_length_le (by omega)] at h
        rw [h]
        exact isCmp_cmpInt.self _
      clear zx zy
      go_enter Try.func11, Try.ntmps11
      go_wp2
      go_loopw [5] (fun i wr => ∃ k : Nat, k ≤ x.size ∧ i = .int .i64 k ∧ Hid (x.data.toList.take k = y.data.toList.take k) ∧ Drawn w wr) (fun i _ => x.size - (intOf i).toNat)
      case atStart => exact ⟨0, Nat.zero_le _, rfl, rfl, 0, rfl⟩
      case round =>
        obtain ⟨k, hk, rfl, ht, n, rfl⟩ := hrel
        by_cases hlt : k < x.size
        · have hly : k < y.size := by omega
          by_cases he : x[k].toNat = y[k].toNat
          · have b : ((x[k].toNat : Int) != (y[k].toNat : Int)) = false := by simp; omega
            have HT := Lib.hid (take_same hlt hly ht.out he)
            clear he
            go_wp2
            go_quiet (fail)
            go_wp2
            go_roundw
            case rel => exact ⟨k + 1, by omega, by go_num, HT, _, rfl⟩
            case measure => simp [intOf]; omega
          · have b : ((x[k].toNat : Int) != (y[k].toNat : Int)) = true := by simp; omega
            have hv := HV.out k hlt hly ht.out he
            clear he HV HE ht
            have HR := Lib.hid hv
            clear hv
            go_wp2
            go_quiet (fail)
            go_wp2
            have bx := x[k].toNat_lt
            have b_y := y[k].toNat_lt
            have wx : IntKind.u32.wrap (x[k].toNat : Int) = (x[k].toNat : Int) := IntWalk.u32_in _ ⟨by omega, by omega⟩
            have wy : IntKind.u32.wrap (y[k].toNat : Int) = (y[k].toNat : Int) := IntWalk.u32_in _ ⟨by omega, by omega⟩
            have HD : Hid (Drawn w ((w.drewN n).drewN nq)) := Drawn.more ⟨n, rfl⟩
            generalize (w.drewN n).drewN nq = w2 at HD ⊢
            go_quiet ((go_at_call 22; exact Calls.quiet_of_same ((sorder _ _ _).mono fun _ _ h => ⟨h.1, h.2.symm⟩)))
            go_wp2
            go_ret
            exact ⟨ret_int HR.out.symm, Drawn.more HD.out⟩
        · obtain rfl : k = x.size := by omega
          have hv := HE.out ht.out
          clear HV HE ht
          have HR := Lib.hid hv
          clear hv
          go_wp2
          go_ret
          exact ⟨ret_int HR.out.symm, _, rfl⟩

end Go.Proofs.Ytdkcpjlcpfkehaa
