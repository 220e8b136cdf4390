/- The walks of the reference's Release: Lang, New, Text. -/
import Derived.Test.YtdkcpjlcpfkehaaSDec
import Derived.Lib.QuietBelow
namespace Go.Proofs.Ytdkcpjlcpfkehaa
open Go.RowKit Plain
open Go.Sort (grow)

theorem dec_len {n : Nat} (h : n < 4294967296) : (dec n).length ≤ 10 := dec_length n 9 (by omega)

/-- The world behind the box of a release. -/
theorem rel_cells (w : World) (a b s n : Nat) :
    (w.alloc (.cells #[.int .u32 a, .int .u32 b, .int .u8 s, .int .u32 n] 28)).cell? ⟨w.heap.size, 0, none⟩ = some (.int .u32 a) ∧
    (w.alloc (.cells #[.int .u32 a, .int .u32 b, .int .u8 s, .int .u32 n] 28)).cell? ⟨w.heap.size, 1, none⟩ = some (.int .u32 b) ∧
    (w.alloc (.cells #[.int .u32 a, .int .u32 b, .int .u8 s, .int .u32 n] 28)).cell? ⟨w.heap.size, 2, none⟩ = some (.int .u8 s) ∧
    (w.alloc (.cells #[.int .u32 a, .int .u32 b, .int .u8 s, .int .u32 n] 28)).cell? ⟨w.heap.size, 3, none⟩ = some (.int .u32 n) :=
  ⟨World.cell?_alloc_new _ _ _ _, World.cell?_alloc_new _ _ _ _, World.cell?_alloc_new _ _ _ _, World.cell?_alloc_new _ _ _ _⟩

set_option maxHeartbeats 1000000 in
theorem sRLang (a b s n : Nat) (w : World) (ha : a < 4294967296) (hb : b < 4294967296) :
    Calls Try.prog 25 #[.agg #[.int .u32 a, .int .u32 b, .int .u8 s, .int .u32 n]] w fun e w' => e = .returned (.string (mk (langOf a b))) ∧ Below w.heap.size w w' := by
  obtain ⟨c0, c1, c2, c3⟩ := rel_cells w a b s n
  have k0 := cell_regrown c0
  have k1 := cell_regrown c1
  have cD := fun (m : Nat) (hm : m < 4294967296) d os => Calls.regrown_of (sDec m (grow (redrawn (w.alloc (.cells #[.int .u32 a, .int .u32 b, .int .u8 s, .int .u32 n] 28)) d) os) hm)
  have CD := Lib.hid cD
  have hla := dec_len ha
  have hlb := dec_len hb
  have n1 : ¬ 9223372036854775807 < (dec a).length + 1 := by omega
  have n2 : ¬ 9223372036854775807 < (dec a).length + 1 + (dec b).length := by omega
  have HV : Hid (langOf a b = dec a ++ 46 :: dec b) := rfl
  clear c0 c1 c2 c3 cD
  go_enter Try.func25, Try.ntmps25
  go_wp2
  refine wp_region_quiet_below (by kernel_rfl) (by kernel_rfl) ?_
  repeat (quiet_step (exact CD.out _ (by assumption) _ _))
  refine wpQuiet_nil ?_
  intro _ hw'
  obtain ⟨⟨dq, osq⟩, hw''⟩ := hw'
  subst hw''
  go_wp2
  go_ret
  exact ⟨ret_str (by rw [HV.out]), ((Below.refl _ _).alloc (Nat.le_refl _) _).trans ((below_regrown _ dq osq).mono (by simp))⟩

set_option maxHeartbeats 1000000 in
theorem sRNew (a b s n : Nat) (w : World) :
    Calls Try.prog 15 #[.agg #[.int .u32 a, .int .u32 b, .int .u8 s, .int .u32 n]] w fun e w' => e = .returned (.bool (decide (21 ≤ b))) ∧ Below w.heap.size w w' := by
  by_cases h : 21 ≤ b
  · have HV : Hid (decide (21 ≤ b) = true) := decide_eq_true h
    rw [HV.out]
    clear HV
    go_enter Try.func15, Try.ntmps15
    go_wp2
    go_ret
    exact ⟨ret_bool (decide_eq_true (by omega)), by go_grown⟩
  · have HV : Hid (decide (21 ≤ b) = false) := decide_eq_false h
    rw [HV.out]
    clear HV
    go_enter Try.func15, Try.ntmps15
    go_wp2
    go_ret
    exact ⟨ret_bool (decide_eq_false (by omega)), by go_grown⟩

theorem langOf_len {a b : Nat} (ha : a < 4294967296) (hb : b < 4294967296) : (langOf a b).length ≤ 21 := by
  have := dec_len ha
  have := dec_len hb
  simp [langOf]; omega

theorem kindOf_len (s : Nat) : (kindOf s).length ≤ 5 := by
  unfold kindOf
  split
  · simp
  · split
    · simp
    · split <;> simp

set_option maxHeartbeats 2000000 in
theorem sRText (a b s n : Nat) (w : World) (ha : a < 4294967296) (hb : b < 4294967296) (hs : s < 256) (hn : n < 4294967296) :
    Calls Try.prog 17 #[.agg #[.int .u32 a, .int .u32 b, .int .u8 s, .int .u32 n]] w fun e w' => e = .returned (.string (mk (textOf a b s n))) ∧ Below w.heap.size w w' := by
  by_cases h0 : s % 5 = 0
  · have HV : Hid (textOf a b s n = langOf a b) := by show _ = _; unfold textOf; rw [if_pos h0]
    have b0 : (((s : Int) % 5) == 0) = true := by rw [beq_iff_eq]; omega
    clear h0
    go_enter Try.func17, Try.ntmps17
    go_wp2_with fail
    refine (sRLang a b s n _ ha hb).mono ?_
    rintro e w' ⟨rfl, hbl⟩
    go_wp2_with fail
    go_ret
    exact ⟨ret_str (by rw [HV.out]), ((Below.refl _ _).alloc (Nat.le_refl _) _).trans (hbl.mono (by simp))⟩
  · obtain ⟨c0, c1, c2, c3⟩ := rel_cells w a b s n
    have k0 := cell_regrown c0
    have k1 := cell_regrown c1
    have k2 := cell_regrown c2
    have k3 := cell_regrown c3
    have CD := Lib.hid (fun (m : Nat) (hm : m < 4294967296) d os => Calls.regrown_of (sDec m (grow (redrawn (w.alloc (.cells #[.int .u32 a, .int .u32 b, .int .u8 s, .int .u32 n] 28)) d) os) hm))
    have CL := Lib.hid (fun d os => Calls.regrown_of (sRLang a b s n (grow (redrawn (w.alloc (.cells #[.int .u32 a, .int .u32 b, .int .u8 s, .int .u32 n] 28)) d) os) ha hb))
    have CK := Lib.hid (fun d os => Calls.regrown_of ((sKind s (grow (redrawn (w.alloc (.cells #[.int .u32 a, .int .u32 b, .int .u8 s, .int .u32 n] 28)) d) os) hs).mono fun _ _ h => ⟨h.1, by rw [← h.2]; exact Below.refl _ _⟩))
    have hl := langOf_len ha hb
    have hk := kindOf_len s
    have hd := dec_len hn
    have b0 : (((s : Int) % 5) == 0) = false := by rw [beq_eq_false_iff_ne]; omega
    by_cases h4 : s % 5 = 4
    · have HV : Hid (textOf a b s n = langOf a b ++ 46 :: dec n) := by show _ = _; unfold textOf; rw [if_neg h0, if_pos h4]
      have b4 : (((s : Int) % 5) == 4) = true := by rw [beq_iff_eq]; omega
      have n1 : ¬ 9223372036854775807 < (langOf a b).length + 1 := by omega
      have n2 : ¬ 9223372036854775807 < (langOf a b).length + 1 + (dec n).length := by omega
      clear h0 h4 c0 c1 c2 c3 CK ha hb
      go_enter Try.func17, Try.ntmps17
      go_wp2
      refine wp_region_quiet_below (by kernel_rfl) (by kernel_rfl) ?_
      repeat (quiet_step (first | (go_at_call 26; exact CD.out _ (by assumption) _ _) | exact CL.out _ _))
      refine wpQuiet_nil ?_
      intro _ hw'
      obtain ⟨⟨dq, osq⟩, hw''⟩ := hw'
      subst hw''
      go_wp2
      go_ret
      exact ⟨ret_str (by rw [HV.out]), ((Below.refl _ _).alloc (Nat.le_refl _) _).trans ((below_regrown _ dq osq).mono (by simp))⟩
    · have HV : Hid (textOf a b s n = langOf a b ++ (kindOf s ++ dec n)) := by show _ = _; unfold textOf; rw [if_neg h0, if_neg h4, List.append_assoc]
      have b4 : (((s : Int) % 5) == 4) = false := by rw [beq_eq_false_iff_ne]; omega
      have n1 : ¬ 9223372036854775807 < (langOf a b).length + (kindOf s).length := by omega
      have n2 : ¬ 9223372036854775807 < (langOf a b).length + (kindOf s).length + (dec n).length := by omega
      clear h0 h4 c0 c1 c2 c3 ha hb
      go_enter Try.func17, Try.ntmps17
      go_wp2
      refine wp_region_quiet_below (by kernel_rfl) (by kernel_rfl) ?_
      repeat (quiet_step (first | (go_at_call 26; exact CD.out _ (by assumption) _ _) | (go_at_call 27; exact CK.out _ _) | exact CL.out _ _))
      refine wpQuiet_nil ?_
      intro _ hw'
      obtain ⟨⟨dq, osq⟩, hw''⟩ := hw'
      subst hw''
      go_wp2
      go_ret
      exact ⟨ret_str (by rw [HV.out]), ((Below.refl _ _).alloc (Nat.le_refl _) _).trans ((below_regrown _ dq osq).mono (by simp))⟩
end Go.Proofs.Ytdkcpjlcpfkehaa
