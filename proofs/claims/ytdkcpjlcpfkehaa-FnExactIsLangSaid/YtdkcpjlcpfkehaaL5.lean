/- FnExactIsLang: since 1.21 a version without a stage is that of the language, and no other one is. Conditions: none. -/
import Derived.Test.YtdkcpjlcpfkehaaRelLaw
import Derived.Test.YtdkcpjlcpfkehaaIsLang
namespace Go.Proofs.Ytdkcpjlcpfkehaa.fnExactIsLang
open Go.ChangeShapes Go.WideShapes Go.ChangeAt Go.RowKit Plain
open Go.ChangeMaps (open_string shut_string)
set_option linter.unusedVariables false

set_option maxRecDepth 100000 in
set_option maxHeartbeats 2000000 in
theorem walkN (a b s n : Nat) (w : World) (ha : a < 4294967296) (hb : b < 4294967296) (hs : s < 256) (hn : n < 4294967296) :
    Calls Try.prog 7 #[.int .u32 a, .int .u32 b, .int .u8 s, .int .u32 n] w fun e w' => e = .returned (.bool true) ∧ Below w.heap.size w w' := by
  have hl : (textOf a b s n).length ≤ 140737488351232 := by have := textOf_len (s := s) ha hb hn; omega
  have HT := Lib.hid (fun w => sRText a b s n w ha hb hs hn)
  by_cases hnew : 21 ≤ b
  · have HN := Lib.hid (fun w => sRNew a b s n w)
    have HD : Hid (decide (21 ≤ b) = true) := decide_eq_true hnew
    have HL := Lib.hid (fun w => iIsLang_rel a b s n w hl (Or.inr hnew))
    have HV : Hid (decide (s % 5 = 0) = (((s : Int) % 5) == 0)) := by
      show _ = _
      rw [Bool.eq_iff_iff, decide_eq_true_iff, beq_iff_eq]; omega
    generalize textOf a b s n = t at *
    rw [HV.out] at HL
    clear HV
    go_enter Try.func7, Try.ntmps7
    go_wp2_with fail
    refine (HN.out _).mono ?_
    rintro e w1 ⟨rfl, hb1⟩
    rw [HD.out]
    have hb0 : Below w.heap.size w w1 := ((Below.refl _ _).alloc (Nat.le_refl _) _).trans (hb1.mono (by simp))
    obtain ⟨hc, hf⟩ := bcell hb1
    clear hb1
    go_wp2_with fail
    refine (HT.out _).mono ?_
    rintro e w2 ⟨rfl, hb2⟩
    go_wp2_with fail
    refine (HL.out _).mono ?_
    rintro e w3 ⟨rfl, hb3⟩
    go_wp2_with fail
    go_ret
    exact ⟨ret_bool (by simp), (hb0.trans (hb2.mono hb0.size)).trans (hb3.mono (Nat.le_trans hb0.size hb2.size))⟩
  · have HN := Lib.hid (fun w => sRNew a b s n w)
    have HD : Hid (decide (21 ≤ b) = false) := decide_eq_false hnew
    by_cases h0 : s % 5 = 0
    · have b0 : (((s : Int) % 5) == 0) = true := by rw [beq_iff_eq]; omega
      clear HT hl h0 hnew
      go_enter Try.func7, Try.ntmps7
      go_wp2_with fail
      refine (HN.out _).mono ?_
      rintro e w1 ⟨rfl, hb1⟩
      rw [HD.out]
      have hb0 : Below w.heap.size w w1 := ((Below.refl _ _).alloc (Nat.le_refl _) _).trans (hb1.mono (by simp))
      go_wp2_with fail
      go_ret
      exact ⟨rfl, hb0⟩
    · have HL := Lib.hid (fun w => iIsLang_rel a b s n w hl (Or.inl h0))
      have HV : Hid (decide (s % 5 = 0) = false) := decide_eq_false h0
      have b0 : (((s : Int) % 5) == 0) = false := by rw [beq_eq_false_iff_ne]; omega
      rw [HV.out] at HL
      clear HV h0
      generalize textOf a b s n = t at *
      go_enter Try.func7, Try.ntmps7
      go_wp2_with fail
      refine (HN.out _).mono ?_
      rintro e w1 ⟨rfl, hb1⟩
      rw [HD.out]
      have hb0 : Below w.heap.size w w1 := ((Below.refl _ _).alloc (Nat.le_refl _) _).trans (hb1.mono (by simp))
      obtain ⟨hc, hf⟩ := bcell hb1
      clear hb1
      go_wp2_with fail
      refine (HT.out _).mono ?_
      rintro e w2 ⟨rfl, hb2⟩
      go_wp2_with fail
      refine (HL.out _).mono ?_
      rintro e w3 ⟨rfl, hb3⟩
      go_wp2_with fail
      go_ret
      exact ⟨rfl, (hb0.trans (hb2.mono hb0.size)).trans (hb3.mono (Nat.le_trans hb0.size hb2.size))⟩

theorem walk (a0 a1 a2 a3 : Int) (w0 : (Lit.int .u32 a0).wf = true) (w1 : (Lit.int .u32 a1).wf = true) (w2 : (Lit.int .u8 a2).wf = true) (w3 : (Lit.int .u32 a3).wf = true) (w : World) :
    Calls Try.prog 7 #[.int .u32 a0, .int .u32 a1, .int .u8 a2, .int .u32 a3] w fun e w' => e = .returned (.bool true) ∧ Below w.heap.size w w' := by
  obtain ⟨a, rfl, ha⟩ := nat_u32 w0
  obtain ⟨b, rfl, hb⟩ := nat_u32 w1
  obtain ⟨s, rfl, hs⟩ := nat_u8 w2
  obtain ⟨n, rfl, hn⟩ := nat_u32 w3
  exact walkN a b s n w ha hb hs hn

set_option maxRecDepth 100000 in
theorem lifted (os : Os) (started : os.Started) (H : Type) (enc : TypeId × Value → H) :
    ReturnsInHanded {} Try.checked os 7 .any (Rows.fnExactIsLangSpec.pre6 enc Try.prog Try.f7 Rows.fnExactIsLangRow.domain false) (Rows.fnExactIsLangSpec.post enc Try.prog Try.f7 false true false false) := by
  refine returnsInHanded_of_change (C := Try.checked) own started (by kernel_rfl) Try.func7
    (ChangeSpec.witness6 (enc := enc) (C := Try.checked) false ⟨#[], #[.int .u32 0, .int .u32 0, .int .u8 0, .int .u32 0], []⟩ 8 (by kernel_rfl) (by kernel_rfl) (by kernel_rfl) (by kernel_rfl)) ?_
  intro W base args ds gs before hval0 hW hcnd _
  have hval : ∀ (j : Nat) t v, Try.f7.params[j]? = some t → args[j]? = some v → Value.okWide Try.prog W .any base t v := hval0
  have hW' := hW
  obtain ⟨p, q, hA0, hV, rfl, hfz, hnd⟩ := hW
  have hA : DataW.TrodAll enc Try.prog W 0 (fun _ => true) true Try.f7.params.toList args.toList ds p := hA0
  rw [Try.params7] at hA hval
  obtain ⟨v0, vs0, d0, ds0, p0, q0, hargs, rfl, rfl, h0, r0⟩ := trodAll_cons hA
  obtain ⟨v1, vs1, d1, ds1, p1, q1, rfl, rfl, rfl, h1, r1⟩ := trodAll_cons r0
  obtain ⟨v2, vs2, d2, ds2, p2, q2, rfl, rfl, rfl, h2, r2⟩ := trodAll_cons r1
  obtain ⟨v3, vs3, d3, ds3, p3, q3, rfl, rfl, rfl, h3, r3⟩ := trodAll_cons r2
  obtain ⟨rfl, rfl, rfl⟩ := trodAll_nil r3
  obtain rfl : args = #[v0, v1, v2, v3] := by cases args; simp_all
  obtain ⟨rfl, rfl⟩ := trodVars_none hV
  obtain ⟨a0, rfl, rfl, rfl, w0⟩ := open_int Try.underlying26 (hval 0 26 v0 rfl rfl) h0
  obtain ⟨a1, rfl, rfl, rfl, w1⟩ := open_int Try.underlying26 (hval 1 26 v1 rfl rfl) h1
  obtain ⟨a2, rfl, rfl, rfl, w2⟩ := open_int Try.underlying5 (hval 2 5 v2 rfl rfl) h2
  obtain ⟨a3, rfl, rfl, rfl, w3⟩ := open_int Try.underlying26 (hval 3 26 v3 rfl rfl) h3
  clear hA0 hval0
  refine (walk a0 a1 a2 a3 w0 w1 w2 w3 W).mono fun e W' ⟨he, bel⟩ => ?_
  subst he
  exact ⟨_, rfl, _, _, _, [], _, [], hW', trodAll_mk1 (shut_bool Try.underlying4 _), (trodAll_cons_mk (shut_int Try.underlying26 w0) (trodAll_cons_mk (shut_int Try.underlying26 w1) (trodAll_cons_mk (shut_int Try.underlying5 w2) (trodAll_cons_mk (shut_int Try.underlying26 w3) trodAll_mk0)))), rfl, bel.frame _, fun h => by cases h⟩

theorem over : Rows.fnExactIsLangRow.holds Try.pinned (OpenSpec.ofChange Rows.fnExactIsLangSpec) :=
  OpenClaim.holds_of_wide 7 Try.f7 rfl rfl rfl rfl rfl rfl rfl ⟨rfl, rfl, rfl, rfl, rfl⟩ rfl rfl rfl rfl rfl (by as_aux_lemma => kernel_rfl) Try.func7 (by as_aux_lemma => kernel_rfl)
    (of_decide_eq_true (by as_aux_lemma => kernel_rfl)) (by unfold Func.isWrapper; first | (rw [if_pos (by decide +kernel)]; kernel_rfl) | (rw [if_neg (by decide +kernel)]; exact ⟨rfl, rfl⟩))
    (fun os started H enc _ => lifted os started H enc)

/-- THE STATEMENT. -/
theorem proved : Rows.FnExactIsLangSaid :=
  over
#print axioms proved
end Go.Proofs.Ytdkcpjlcpfkehaa.fnExactIsLang
