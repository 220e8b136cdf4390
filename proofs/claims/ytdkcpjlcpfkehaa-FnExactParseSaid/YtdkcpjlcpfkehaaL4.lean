/- FnExactParse: a version since 1.21 is taken apart into its numbers and the word of its stage; an elder one, too, if it has a patch, an alpha, a beta or a release candidate. Conditions: none. -/
import Derived.Test.YtdkcpjlcpfkehaaRelLaw
import Derived.Test.YtdkcpjlcpfkehaaRVer
namespace Go.Proofs.Ytdkcpjlcpfkehaa.fnExactParse
open Go.ChangeShapes Go.WideShapes Go.ChangeAt Go.RowKit Plain
open Go.ChangeMaps (open_string shut_string)
open Go.Sort (grow)
set_option linter.unusedVariables false

set_option maxRecDepth 100000 in
set_option maxHeartbeats 4000000 in
theorem walk_stage (a b s n : Nat) (w : World) (ha : a < 4294967296) (hb : b < 4294967296) (hs : s < 256) (hn : n < 4294967296) (h0 : s % 5 ≠ 0) :
    Calls Try.prog 6 #[.int .u32 a, .int .u32 b, .int .u8 s, .int .u32 n] w fun e w' => e = .returned (.bool true) ∧ Below w.heap.size w w' := by
  have hl : (textOf a b s n).length ≤ 140737488351232 := by have := textOf_len (s := s) ha hb hn; omega
  have b0 : (((s : Int) % 5) == 0) = false := by rw [beq_eq_false_iff_ne]; omega
  obtain ⟨c0, c1, c2, c3⟩ := rel_cells w a b s n
  have k0 := cell_regrown c0
  have k1 := cell_regrown c1
  have k2 := cell_regrown c2
  have k3 := cell_regrown c3
  have HP := fun w => iParse (textOf a b s n) w hl
  have HR := fun w => sRVersion_all a b s n w ha hb hs hn
  rw [parse_textOf a b s n (Or.inl h0)] at HP
  obtain ⟨⟨m, i, p, k, q⟩, hv⟩ : ∃ v, verOf a b s n = v := ⟨_, rfl⟩
  rw [hv] at HP HR
  unfold verV at HP HR
  simp only [] at HP HR
  have GT := Lib.hid (fun d os => Calls.regrown_of (sRText a b s n (grow (redrawn (w.alloc (.cells #[.int .u32 a, .int .u32 b, .int .u8 s, .int .u32 n] 28)) d) os) ha hb hs hn))
  have GP := Lib.hid (fun d os => Calls.regrown_of (HP (grow (redrawn (w.alloc (.cells #[.int .u32 a, .int .u32 b, .int .u8 s, .int .u32 n] 28)) d) os)))
  have GR := Lib.hid (fun d os => Calls.regrown_of (HR (grow (redrawn (w.alloc (.cells #[.int .u32 a, .int .u32 b, .int .u8 s, .int .u32 n] 28)) d) os)))
  generalize textOf a b s n = t at *
  clear c0 c1 c2 c3 HP HR hv h0 ha hb hs hn hl
  go_enter Try.func6, Try.ntmps6
  go_wp2
  refine wp_region_quiet_below (by kernel_rfl) (by kernel_rfl) ?_
  repeat (quiet_step (first | (go_at_call 17; exact GT.out _ _) | (go_at_call 16; exact GP.out _ _) | (go_at_call 18; exact GR.out _ _)))
  refine wpQuiet_nil ?_
  intro _ hw'
  obtain ⟨⟨dq, osq⟩, hw''⟩ := hw'
  subst hw''
  go_wp2
  go_ret
  exact ⟨ret_bool (by simp), ((Below.refl _ _).alloc (Nat.le_refl _) _).trans ((below_regrown _ dq osq).mono (by simp))⟩

set_option maxRecDepth 100000 in
set_option maxHeartbeats 4000000 in
theorem walk_lang (a b s n : Nat) (w : World) (ha : a < 4294967296) (hb : b < 4294967296) (hs : s < 256) (hn : n < 4294967296) (h0 : s % 5 = 0) (h21 : 21 ≤ b) :
    Calls Try.prog 6 #[.int .u32 a, .int .u32 b, .int .u8 s, .int .u32 n] w fun e w' => e = .returned (.bool true) ∧ Below w.heap.size w w' := by
  have hl : (textOf a b s n).length ≤ 140737488351232 := by have := textOf_len (s := s) ha hb hn; omega
  have b0 : (((s : Int) % 5) == 0) = true := by rw [beq_iff_eq]; omega
  have N1 := Lib.hid (fun w => sRNew a b s n w)
  rw [decide_eq_true h21] at N1
  have KX := Lib.hid (fun w => rel_cells w a b s n)
  have HT := Lib.hid (fun w => sRText a b s n w ha hb hs hn)
  have HP := fun w => iParse (textOf a b s n) w hl
  have HR := fun w => sRVersion_all a b s n w ha hb hs hn
  rw [parse_textOf a b s n (Or.inr h21)] at HP
  obtain ⟨⟨m, i, p, k, q⟩, hv⟩ : ∃ v, verOf a b s n = v := ⟨_, rfl⟩
  rw [hv] at HP HR
  unfold verV at HP HR
  simp only [] at HP HR
  have HP2 := Lib.hid HP
  have HR2 := Lib.hid HR
  generalize textOf a b s n = t at *
  clear HP HR hv h0 ha hb hs hn hl h21
  go_enter Try.func6, Try.ntmps6
  go_wp2_with fail
  refine (N1.out _).mono ?_
  rintro e w1 ⟨rfl, hb1⟩
  have C0 := (bcell hb1).1
  obtain ⟨c0, c1, c2, c3⟩ := KX.out w
  have k0 := cell_regrown ((C0 w.heap.size 0 (by simp)).trans c0)
  have k1 := cell_regrown ((C0 w.heap.size 1 (by simp)).trans c1)
  have k2 := cell_regrown ((C0 w.heap.size 2 (by simp)).trans c2)
  have k3 := cell_regrown ((C0 w.heap.size 3 (by simp)).trans c3)
  have hb0 : Below w.heap.size w w1 := ((Below.refl _ _).alloc (Nat.le_refl _) _).trans (hb1.mono (by simp))
  have GT := Lib.hid (fun d os => Calls.regrown_of (HT.out (grow (redrawn w1 d) os)))
  have GP := Lib.hid (fun d os => Calls.regrown_of (HP2.out (grow (redrawn w1 d) os)))
  have GR := Lib.hid (fun d os => Calls.regrown_of (HR2.out (grow (redrawn w1 d) os)))
  clear C0 c0 c1 c2 c3 hb1 KX HT HP2 HR2 N1
  go_wp2
  refine wp_region_quiet_below (by kernel_rfl) (by kernel_rfl) ?_
  repeat (quiet_step (first | (go_at_call 17; exact GT.out _ _) | (go_at_call 16; exact GP.out _ _) | (go_at_call 18; exact GR.out _ _)))
  refine wpQuiet_nil ?_
  intro _ hw'
  obtain ⟨⟨dq, osq⟩, hw''⟩ := hw'
  subst hw''
  go_wp2
  go_ret
  exact ⟨ret_bool (by simp), hb0.trans ((below_regrown _ dq osq).mono hb0.size)⟩

set_option maxRecDepth 100000 in
set_option maxHeartbeats 2000000 in
theorem walk_old (a b s n : Nat) (w : World) (hs : s < 256) (h0 : s % 5 = 0) (h21 : ¬ 21 ≤ b) :
    Calls Try.prog 6 #[.int .u32 a, .int .u32 b, .int .u8 s, .int .u32 n] w fun e w' => e = .returned (.bool true) ∧ Below w.heap.size w w' := by
  have b0 : (((s : Int) % 5) == 0) = true := by rw [beq_iff_eq]; omega
  have N1 := Lib.hid (fun w => sRNew a b s n w)
  rw [decide_eq_false h21] at N1
  clear h21 h0
  go_enter Try.func6, Try.ntmps6
  go_wp2_with fail
  refine (N1.out _).mono ?_
  rintro e w1 ⟨rfl, hb1⟩
  go_wp2_with fail
  go_ret
  exact ⟨rfl, ((Below.refl _ _).alloc (Nat.le_refl _) _).trans (hb1.mono (by simp))⟩

theorem walk (a0 a1 a2 a3 : Int) (w0 : (Lit.int .u32 a0).wf = true) (w1 : (Lit.int .u32 a1).wf = true) (w2 : (Lit.int .u8 a2).wf = true) (w3 : (Lit.int .u32 a3).wf = true) (w : World) :
    Calls Try.prog 6 #[.int .u32 a0, .int .u32 a1, .int .u8 a2, .int .u32 a3] w fun e w' => e = .returned (.bool true) ∧ Below w.heap.size w w' := by
  obtain ⟨a, rfl, ha⟩ := nat_u32 w0
  obtain ⟨b, rfl, hb⟩ := nat_u32 w1
  obtain ⟨s, rfl, hs⟩ := nat_u8 w2
  obtain ⟨n, rfl, hn⟩ := nat_u32 w3
  by_cases h0 : s % 5 = 0
  · by_cases h21 : 21 ≤ b
    · exact walk_lang a b s n w ha hb hs hn h0 h21
    · exact walk_old a b s n w hs h0 h21
  · exact walk_stage a b s n w ha hb hs hn h0

set_option maxRecDepth 100000 in
theorem lifted (os : Os) (started : os.Started) (H : Type) (enc : TypeId × Value → H) :
    ReturnsInHanded {} Try.checked os 6 .any (Rows.fnExactParseSpec.pre6 enc Try.prog Try.f6 Rows.fnExactParseRow.domain false) (Rows.fnExactParseSpec.post enc Try.prog Try.f6 false true false false) := by
  refine returnsInHanded_of_change (C := Try.checked) own started (by kernel_rfl) Try.func6
    (ChangeSpec.witness6 (enc := enc) (C := Try.checked) false ⟨#[], #[.int .u32 0, .int .u32 0, .int .u8 0, .int .u32 0], []⟩ 8 (by kernel_rfl) (by kernel_rfl) (by kernel_rfl) (by kernel_rfl)) ?_
  intro W base args ds gs before hval0 hW hcnd _
  have hval : ∀ (j : Nat) t v, Try.f6.params[j]? = some t → args[j]? = some v → Value.okWide Try.prog W .any base t v := hval0
  have hW' := hW
  obtain ⟨p, q, hA0, hV, rfl, hfz, hnd⟩ := hW
  have hA : DataW.TrodAll enc Try.prog W 0 (fun _ => true) true Try.f6.params.toList args.toList ds p := hA0
  rw [Try.params6] at hA hval
  obtain ⟨v0, vs0, d0, ds0, p0, q0, hargs, rfl, rfl, h0, r0⟩ := trodAll_cons hA
  obtain ⟨v1, vs1, d1, ds1, p1, q1, rfl, rfl, rfl, h1, r1⟩ := trodAll_cons r0
  obtain ⟨v2, vs2, d2, ds2, p2, q2, rfl, rfl, rfl, h2, r2⟩ := trodAll_cons r1
  obtain ⟨v3, vs3, d3, ds3, p3, q3, rfl, rfl, rfl, h3, r3⟩ := trodAll_cons r2
  obtain ⟨rfl, rfl, rfl⟩ := trodAll_nil r3
  obtain rfl : args = #[v0, v1, v2, v3] := by cases args; simp_all
  obtain ⟨rfl, rfl⟩ := trodVars_none hV
  obtain ⟨a0, rfl, rfl, rfl, w0⟩ := open_int Try.underlying26 (hval 0 26 v0 rfl rfl) h0
  obtain ⟨a1, rfl, rfl, rfl, w1⟩ := open_int Try.underlying26 (hval 1 26 v1 rfl rfl) h1
  obtain ⟨a2, rfl, rfl, rfl, w2⟩ := open_int Try.underlying5 (hval 2 5 v2 rfl rfl) h2
  obtain ⟨a3, rfl, rfl, rfl, w3⟩ := open_int Try.underlying26 (hval 3 26 v3 rfl rfl) h3
  clear hA0 hval0
  refine (walk a0 a1 a2 a3 w0 w1 w2 w3 W).mono fun e W' ⟨he, bel⟩ => ?_
  subst he
  exact ⟨_, rfl, _, _, _, [], _, [], hW', trodAll_mk1 (shut_bool Try.underlying4 _), (trodAll_cons_mk (shut_int Try.underlying26 w0) (trodAll_cons_mk (shut_int Try.underlying26 w1) (trodAll_cons_mk (shut_int Try.underlying5 w2) (trodAll_cons_mk (shut_int Try.underlying26 w3) trodAll_mk0)))), rfl, bel.frame _, fun h => by cases h⟩

theorem over : Rows.fnExactParseRow.holds Try.pinned (OpenSpec.ofChange Rows.fnExactParseSpec) :=
  OpenClaim.holds_of_wide 6 Try.f6 rfl rfl rfl rfl rfl rfl rfl ⟨rfl, rfl, rfl, rfl, rfl⟩ rfl rfl rfl rfl rfl (by as_aux_lemma => kernel_rfl) Try.func6 (by as_aux_lemma => kernel_rfl)
    (of_decide_eq_true (by as_aux_lemma => kernel_rfl)) (by unfold Func.isWrapper; first | (rw [if_pos (by decide +kernel)]; kernel_rfl) | (rw [if_neg (by decide +kernel)]; exact ⟨rfl, rfl⟩))
    (fun os started H enc _ => lifted os started H enc)

/-- THE STATEMENT. -/
theorem proved : Rows.FnExactParseSaid :=
  over
#print axioms proved
end Go.Proofs.Ytdkcpjlcpfkehaa.fnExactParse
