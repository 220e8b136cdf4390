/- The walks of the reference's Dec and Kind: a number in decimal, the word of a stage. -/
import Derived.Test.YtdkcpjlcpfkehaaMk
import Derived.Laws.IdiomStrings
namespace Go.Proofs.Ytdkcpjlcpfkehaa
open Go.RowKit Plain

theorem one_back (w : World) (n : Nat) :
    (convert 38 9 (.slice (some ⟨w.heap.size, 0, none⟩) 1 1)).run Try.prog (w.alloc (.cells #[.int .u8 (48 + (n : Int) % 10)] 5)) = .ok (.string (mk [digitB (n % 10)])) (w.alloc (.cells #[.int .u8 (48 + (n : Int) % 10)] 5)) := by
  have hd : ((digitB (n % 10)).toNat : Int) = 48 + (n : Int) % 10 := by rw [toNat_digit (by omega)]; omega
  exact run_convert_bytes_back (P := Try.prog) _ 38 9 5 ⟨w.heap.size, 0, none⟩ 1 [digitB (n % 10)] Try.underlying38 Try.underlying5 Try.underlying9 (fun j hj => by
    have : j = 0 := by simp at hj; omega
    subst this
    have := World.cell?_alloc_new w #[.int .u8 (48 + (n : Int) % 10)] 5 0
    refine this.trans ?_
    simp [hd])

set_option maxHeartbeats 1000000 in
theorem sDec_aux (n : Nat) : ∀ (w : World), n < 4294967296 →
    Calls Try.prog 26 #[.int .u32 n] w fun e w' => e = .returned (.string (mk (dec n))) ∧ Below w.heap.size w w' := by
  induction n using Nat.strongRecOn with
  | ind n ih =>
    intro w hn
    have hback := one_back w n
    by_cases h : n < 10
    · have HV : Hid (dec n = [digitB (n % 10)]) := by show _ = _; rw [dec_small h, Nat.mod_eq_of_lt h]
      clear ih
      go_enter Try.func26, Try.ntmps26
      go_wp2_with fail
      go_ret
      exact ⟨ret_str (by rw [HV.out]), by go_grown⟩
    · have HV : Hid (dec n = dec (n / 10) ++ [digitB (n % 10)]) := dec_big h
      have IH := Lib.hid (fun w => ih (n / 10) (by omega) w (by omega))
      have hlen : (dec (n / 10)).length ≤ 10 := by have := dec_length (n / 10) 9 (by omega); exact this
      clear ih
      go_enter Try.func26, Try.ntmps26
      go_wp2_with fail
      refine (IH.out _).mono ?_
      rintro e w' ⟨rfl, hb⟩
      go_wp2_with fail
      go_ret
      exact ⟨ret_str (by rw [HV.out]), ((Below.refl _ _).alloc (Nat.le_refl _) _).trans (hb.mono (by simp))⟩

theorem sDec (n : Nat) (w : World) (hn : n < 4294967296) :
    Calls Try.prog 26 #[.int .u32 n] w fun e w' => e = .returned (.string (mk (dec n))) ∧ Below w.heap.size w w' := sDec_aux n w hn

set_option maxHeartbeats 1000000 in
theorem sKind (s : Nat) (w : World) (hs : s < 256) :
    Calls Try.prog 27 #[.int .u8 s] w fun e w' => e = .returned (.string (mk (kindOf s))) ∧ w = w' := by
  rcases stage_cases s with h | h | h | h | h
  · have HV : Hid (kindOf s = []) := by show _ = _; simp [kindOf, h]
    have b1 : (((s : Int) % 5) == 1) = false := by rw [beq_eq_false_iff_ne]; omega
    have b2 : (((s : Int) % 5) == 2) = false := by rw [beq_eq_false_iff_ne]; omega
    have b3 : (((s : Int) % 5) == 3) = false := by rw [beq_eq_false_iff_ne]; omega
    clear h
    go_enter Try.func27, Try.ntmps27
    go_wp2
    go_ret
    exact ⟨ret_str (by rw [HV.out]; rfl), rfl⟩
  · have HV : Hid (kindOf s = [97, 108, 112, 104, 97]) := by show _ = _; simp [kindOf, h]
    have b1 : (((s : Int) % 5) == 1) = true := by rw [beq_iff_eq]; omega
    clear h
    go_enter Try.func27, Try.ntmps27
    go_wp2
    go_ret
    exact ⟨ret_str (by rw [HV.out]; rfl), rfl⟩
  · have HV : Hid (kindOf s = [98, 101, 116, 97]) := by show _ = _; simp [kindOf, h]
    have b1 : (((s : Int) % 5) == 1) = false := by rw [beq_eq_false_iff_ne]; omega
    have b2 : (((s : Int) % 5) == 2) = true := by rw [beq_iff_eq]; omega
    clear h
    go_enter Try.func27, Try.ntmps27
    go_wp2
    go_ret
    exact ⟨ret_str (by rw [HV.out]; rfl), rfl⟩
  · have HV : Hid (kindOf s = [114, 99]) := by show _ = _; simp [kindOf, h]
    have b1 : (((s : Int) % 5) == 1) = false := by rw [beq_eq_false_iff_ne]; omega
    have b2 : (((s : Int) % 5) == 2) = false := by rw [beq_eq_false_iff_ne]; omega
    have b3 : (((s : Int) % 5) == 3) = true := by rw [beq_iff_eq]; omega
    clear h
    go_enter Try.func27, Try.ntmps27
    go_wp2
    go_ret
    exact ⟨ret_str (by rw [HV.out]; rfl), rfl⟩
  · have HV : Hid (kindOf s = []) := by show _ = _; simp [kindOf, h]
    have b1 : (((s : Int) % 5) == 1) = false := by rw [beq_eq_false_iff_ne]; omega
    have b2 : (((s : Int) % 5) == 2) = false := by rw [beq_eq_false_iff_ne]; omega
    have b3 : (((s : Int) % 5) == 3) = false := by rw [beq_eq_false_iff_ne]; omega
    clear h
    go_enter Try.func27, Try.ntmps27
    go_wp2
    go_ret
    exact ⟨ret_str (by rw [HV.out]; rfl), rfl⟩
end Go.Proofs.Ytdkcpjlcpfkehaa
