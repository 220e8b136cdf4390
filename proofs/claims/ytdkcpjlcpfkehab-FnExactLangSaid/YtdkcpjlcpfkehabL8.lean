/- FnExactLang: the version of the language is the major and the minor number (but for 1.0). Conditions: none. -/
import Derived.Test.YtdkcpjlcpfkehabLangLaw
namespace Go.Proofs.Ytdkcpjlcpfkehab.fnExactLang
open Go.ChangeShapes Go.WideShapes Go.ChangeAt Go.RowKit Plain
open Go.ChangeMaps (open_string shut_string)
open Go.Sort (grow)
set_option linter.unusedVariables false

theorem lang123 : langX [49, 46, 50, 46, 51] = [49, 46, 50] := by decide +kernel

set_option maxRecDepth 100000 in
set_option maxHeartbeats 2000000 in
theorem walkN (a b s n : Nat) (w : World) (ha : a < 4294967296) (hb : b < 4294967296) (hs : s < 256) (hn : n < 4294967296) :
    Calls Try.prog 4 #[.int .u32 a, .int .u32 b, .int .u8 s, .int .u32 n] w fun e w' => e = .returned (.bool true) ∧ Below w.heap.size w w' := by
  have hl : (textOf a b s n).length ≤ 140737488351232 := by have := textOf_len (s := s) ha hb hn; omega
  by_cases h10 : a = 1 ∧ b = 0
  · obtain ⟨rfl, rfl⟩ := h10
    have H := Lib.hid (fun w => iLang [49, 46, 50, 46, 51] w (by simp))
    rw [lang123] at H
    clear hl
    go_enter Try.func4, Try.ntmps4
    go_wp2_with fail
    refine (H.out _).mono ?_
    rintro e w1 ⟨rfl, hb1⟩
    go_wp2_with fail
    go_ret
    exact ⟨ret_bool (by simp), ((Below.refl _ _).alloc (Nat.le_refl _) _).trans (hb1.mono (by simp))⟩
  · obtain ⟨c0, c1, c2, c3⟩ := rel_cells w a b s n
    have k0 := cell_regrown c0
    have k1 := cell_regrown c1
    have k2 := cell_regrown c2
    have k3 := cell_regrown c3
    have CT := Lib.hid (fun d os => Calls.regrown_of (sRText a b s n (grow (redrawn (w.alloc (.cells #[.int .u32 a, .int .u32 b, .int .u8 s, .int .u32 n] 28)) d) os) ha hb hs hn))
    have CR := Lib.hid (fun d os => Calls.regrown_of (sRLang a b s n (grow (redrawn (w.alloc (.cells #[.int .u32 a, .int .u32 b, .int .u8 s, .int .u32 n] 28)) d) os) ha hb))
    have CL := Lib.hid (fun d os => Calls.regrown_of (iLang (textOf a b s n) (grow (redrawn (w.alloc (.cells #[.int .u32 a, .int .u32 b, .int .u8 s, .int .u32 n] 28)) d) os) hl))
    rw [langX_text s n h10] at CL
    generalize textOf a b s n = t at *
    generalize langOf a b = g at *
    clear c0 c1 c2 c3 ha hb hs hn hl
    by_cases h1 : a = 1
    · have b1 : ((a : Int) == 1) = true := by rw [beq_iff_eq]; omega
      have b0 : ((b : Int) == 0) = false := by rw [beq_eq_false_iff_ne]; omega
      clear h1 h10
      go_enter Try.func4, Try.ntmps4
      go_wp2
      refine wp_region_quiet_below (by kernel_rfl) (by kernel_rfl) ?_
      repeat (quiet_step (first | (go_at_call 13; exact CT.out _ _) | (go_at_call 12; exact CL.out _ _) | (go_at_call 14; exact CR.out _ _)))
      refine wpQuiet_nil ?_
      intro _ hw'
      obtain ⟨⟨dq, osq⟩, hw''⟩ := hw'
      subst hw''
      go_wp2
      go_ret
      exact ⟨ret_bool (by simp), ((Below.refl _ _).alloc (Nat.le_refl _) _).trans ((below_regrown _ dq osq).mono (by simp))⟩
    · have b1 : ((a : Int) == 1) = false := by rw [beq_eq_false_iff_ne]; omega
      clear h1 h10
      go_enter Try.func4, Try.ntmps4
      go_wp2
      refine wp_region_quiet_below (by kernel_rfl) (by kernel_rfl) ?_
      repeat (quiet_step (first | (go_at_call 13; exact CT.out _ _) | (go_at_call 12; exact CL.out _ _) | (go_at_call 14; exact CR.out _ _)))
      refine wpQuiet_nil ?_
      intro _ hw'
      obtain ⟨⟨dq, osq⟩, hw''⟩ := hw'
      subst hw''
      go_wp2
      go_ret
      exact ⟨ret_bool (by simp), ((Below.refl _ _).alloc (Nat.le_refl _) _).trans ((below_regrown _ dq osq).mono (by simp))⟩

theorem walk (a0 a1 a2 a3 : Int) (w0 : (Lit.int .u32 a0).wf = true) (w1 : (Lit.int .u32 a1).wf = true) (w2 : (Lit.int .u8 a2).wf = true) (w3 : (Lit.int .u32 a3).wf = true) (w : World) :
    Calls Try.prog 4 #[.int .u32 a0, .int .u32 a1, .int .u8 a2, .int .u32 a3] w fun e w' => e = .returned (.bool true) ∧ Below w.heap.size w w' := by
  obtain ⟨a, rfl, ha⟩ := nat_u32 w0
  obtain ⟨b, rfl, hb⟩ := nat_u32 w1
  obtain ⟨s, rfl, hs⟩ := nat_u8 w2
  obtain ⟨n, rfl, hn⟩ := nat_u32 w3
  exact walkN a b s n w ha hb hs hn

set_option maxRecDepth 100000 in
theorem lifted (os : Os) (started : os.Started) (H : Type) (enc : TypeId × Value → H) :
    ReturnsInHanded {} Try.checked os 4 .any (Rows.fnExactLangSpec.pre6 enc Try.prog Try.f4 Rows.fnExactLangRow.domain false) (Rows.fnExactLangSpec.post enc Try.prog Try.f4 false true false false) := by
  refine returnsInHanded_of_change (C := Try.checked) own started (by kernel_rfl) Try.func4
    (ChangeSpec.witness6 (enc := enc) (C := Try.checked) false ⟨#[], #[.int .u32 0, .int .u32 0, .int .u8 0, .int .u32 0], []⟩ 8 (by kernel_rfl) (by kernel_rfl) (by kernel_rfl) (by kernel_rfl)) ?_
  intro W base args ds gs before hval0 hW hcnd _
  have hval : ∀ (j : Nat) t v, Try.f4.params[j]? = some t → args[j]? = some v → Value.okWide Try.prog W .any base t v := hval0
  have hW' := hW
  obtain ⟨p, q, hA0, hV, rfl, hfz, hnd⟩ := hW
  have hA : DataW.TrodAll enc Try.prog W 0 (fun _ => true) true Try.f4.params.toList args.toList ds p := hA0
  rw [Try.params4] at hA hval
  obtain ⟨v0, vs0, d0, ds0, p0, q0, hargs, rfl, rfl, h0, r0⟩ := trodAll_cons hA
  obtain ⟨v1, vs1, d1, ds1, p1, q1, rfl, rfl, rfl, h1, r1⟩ := trodAll_cons r0
  obtain ⟨v2, vs2, d2, ds2, p2, q2, rfl, rfl, rfl, h2, r2⟩ := trodAll_cons r1
  obtain ⟨v3, vs3, d3, ds3, p3, q3, rfl, rfl, rfl, h3, r3⟩ := trodAll_cons r2
  obtain ⟨rfl, rfl, rfl⟩ := trodAll_nil r3
  obtain rfl : args = #[v0, v1, v2, v3] := by cases args; simp_all
  obtain ⟨rfl, rfl⟩ := trodVars_none hV
  obtain ⟨a0, rfl, rfl, rfl, w0⟩ := open_int Try.underlying26 (hval 0 26 v0 rfl rfl) h0
  obtain ⟨a1, rfl, rfl, rfl, w1⟩ := open_int Try.underlying26 (hval 1 26 v1 rfl rfl) h1
  obtain ⟨a2, rfl, rfl, rfl, w2⟩ := open_int Try.underlying5 (hval 2 5 v2 rfl rfl) h2
  obtain ⟨a3, rfl, rfl, rfl, w3⟩ := open_int Try.underlying26 (hval 3 26 v3 rfl rfl) h3
  clear hA0 hval0
  refine (walk a0 a1 a2 a3 w0 w1 w2 w3 W).mono fun e W' ⟨he, bel⟩ => ?_
  subst he
  exact ⟨_, rfl, _, _, _, [], _, [], hW', trodAll_mk1 (shut_bool Try.underlying4 _), (trodAll_cons_mk (shut_int Try.underlying26 w0) (trodAll_cons_mk (shut_int Try.underlying26 w1) (trodAll_cons_mk (shut_int Try.underlying5 w2) (trodAll_cons_mk (shut_int Try.underlying26 w3) trodAll_mk0)))), rfl, bel.frame _, fun h => by cases h⟩

theorem over : Rows.fnExactLangRow.holds Try.pinned (OpenSpec.ofChange Rows.fnExactLangSpec) :=
  OpenClaim.holds_of_wide 4 Try.f4 rfl rfl rfl rfl rfl rfl rfl ⟨rfl, rfl, rfl, rfl, rfl⟩ rfl rfl rfl rfl rfl (by as_aux_lemma => kernel_rfl) Try.func4 (by as_aux_lemma => kernel_rfl)
    (of_decide_eq_true (by as_aux_lemma => kernel_rfl)) (by unfold Func.isWrapper; first | (rw [if_pos (by decide +kernel)]; kernel_rfl) | (rw [if_neg (by decide +kernel)]; exact ⟨rfl, rfl⟩))
    (fun os started H enc _ => lifted os started H enc)

/-- THE STATEMENT. -/
theorem proved : Rows.FnExactLangSaid :=
  over
#print axioms proved
end Go.Proofs.Ytdkcpjlcpfkehab.fnExactLang
