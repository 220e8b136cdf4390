/- FnChain: of three versions in order the first one is not greater than the last one, and is equal to it just if all are. Conditions: none. -/
import Derived.Test.YtdkcpjlcpfkehabCmpV
import Derived.Test.YtdkcpjlcpfkehabLaw
namespace Go.Proofs.Ytdkcpjlcpfkehab.fnChain
open Go.ChangeShapes Go.WideShapes Go.ChangeAt Go.RowKit Plain
open Go.ChangeMaps (open_string shut_string)
set_option linter.unusedVariables false

theorem c2221 : cmpX [49, 46, 50, 50] [49, 46, 50, 49] = 1 := by decide +kernel

theorem chain_val (x y z : List UInt8) (h1 : cmpX x y ≤ 0) (h2 : cmpX y z ≤ 0) : cmpX x z = if cmpX x y = 0 ∧ cmpX y z = 0 then 0 else -1 := by
  have h := cmpX_chain h1 h2
  have hr := cmpX_range x z
  by_cases hc : cmpX x y = 0 ∧ cmpX y z = 0
  · rw [if_pos hc]; exact h.2.2 hc
  · rw [if_neg hc]
    have : cmpX x z ≠ 0 := fun e => hc (h.2.1 e)
    omega

set_option maxRecDepth 100000 in
set_option maxHeartbeats 4000000 in
theorem walkN (x y z : List UInt8) (w : World) (hx : x.length ≤ 9223372036854775807) (hy : y.length ≤ 9223372036854775807) (hz : z.length ≤ 9223372036854775807) :
    Calls Try.prog 6 #[.string (mk x), .string (mk y), .string (mk z)] w fun e w' => e = .returned (.bool true) ∧ Below w.heap.size w w' := by
  by_cases h1 : 2147483647 < x.length
  · go_enter Try.func6, Try.ntmps6
    go_wp2
    go_ret
    exact ⟨rfl, by go_grown⟩
  by_cases h2 : 2147483647 < y.length
  · go_enter Try.func6, Try.ntmps6
    go_wp2
    go_ret
    exact ⟨rfl, by go_grown⟩
  by_cases h3 : 2147483647 < z.length
  · go_enter Try.func6, Try.ntmps6
    go_wp2
    go_ret
    exact ⟨rfl, by go_grown⟩
  have H1 := Lib.hid (fun w => iCompare x y w (by omega) (by omega))
  have H2 := Lib.hid (fun w => iCompare y z w (by omega) (by omega))
  have H3 := Lib.hid (fun w => iCompare x z w (by omega) (by omega))
  have H4 := Lib.hid (fun w => iCompare [49, 46, 50, 50] [49, 46, 50, 49] w (by simp) (by simp))
  have hr1 := cmpX_range x y
  have hr2 := cmpX_range y z
  have hv := chain_val x y z
  rw [c2221] at H4
  generalize cmpX x y = c1 at *
  generalize cmpX y z = c2 at *
  generalize cmpX x z = c at *
  rcases hr1 with rfl | rfl | rfl
  · rcases hr2 with rfl | rfl | rfl
    · obtain rfl : c = -1 := by simpa using hv (by omega) (by omega)
      clear hv
      go_enter Try.func6, Try.ntmps6
      go_wp2_with fail
      refine (H1.out _).mono ?_
      rintro e w1 ⟨rfl, hb1⟩
      have hz1 := hb1
      go_wp2_with fail
      refine (H2.out _).mono ?_
      rintro e w2 ⟨rfl, hb2⟩
      have hz2 := hz1.trans (hb2.mono hz1.size)
      go_wp2_with fail
      refine (H3.out _).mono ?_
      rintro e w3 ⟨rfl, hb3⟩
      have hz3 := hz2.trans (hb3.mono hz2.size)
      go_wp2_with fail
      refine (H1.out _).mono ?_
      rintro e w4 ⟨rfl, hb4⟩
      have hz4 := hz3.trans (hb4.mono hz3.size)
      go_wp2_with fail
      refine (H4.out _).mono ?_
      rintro e w5 ⟨rfl, hb5⟩
      have hz5 := hz4.trans (hb5.mono hz4.size)
      go_wp2_with fail
      go_ret
      exact ⟨rfl, hz5⟩
    · obtain rfl : c = -1 := by simpa using hv (by omega) (by omega)
      clear hv
      go_enter Try.func6, Try.ntmps6
      go_wp2_with fail
      refine (H1.out _).mono ?_
      rintro e w1 ⟨rfl, hb1⟩
      have hz1 := hb1
      go_wp2_with fail
      refine (H2.out _).mono ?_
      rintro e w2 ⟨rfl, hb2⟩
      have hz2 := hz1.trans (hb2.mono hz1.size)
      go_wp2_with fail
      refine (H3.out _).mono ?_
      rintro e w3 ⟨rfl, hb3⟩
      have hz3 := hz2.trans (hb3.mono hz2.size)
      go_wp2_with fail
      refine (H1.out _).mono ?_
      rintro e w4 ⟨rfl, hb4⟩
      have hz4 := hz3.trans (hb4.mono hz3.size)
      go_wp2_with fail
      refine (H4.out _).mono ?_
      rintro e w5 ⟨rfl, hb5⟩
      have hz5 := hz4.trans (hb5.mono hz4.size)
      go_wp2_with fail
      go_ret
      exact ⟨rfl, hz5⟩
    · clear hv
      go_enter Try.func6, Try.ntmps6
      go_wp2_with fail
      refine (H1.out _).mono ?_
      rintro e w1 ⟨rfl, hb1⟩
      have hz1 := hb1
      go_wp2_with fail
      refine (H2.out _).mono ?_
      rintro e w2 ⟨rfl, hb2⟩
      have hz2 := hz1.trans (hb2.mono hz1.size)
      go_wp2_with fail
      refine (H4.out _).mono ?_
      rintro e w3 ⟨rfl, hb3⟩
      have hz3 := hz2.trans (hb3.mono hz2.size)
      go_wp2_with fail
      go_ret
      exact ⟨rfl, hz3⟩
  · rcases hr2 with rfl | rfl | rfl
    · obtain rfl : c = -1 := by simpa using hv (by omega) (by omega)
      clear hv
      go_enter Try.func6, Try.ntmps6
      go_wp2_with fail
      refine (H1.out _).mono ?_
      rintro e w1 ⟨rfl, hb1⟩
      have hz1 := hb1
      go_wp2_with fail
      refine (H2.out _).mono ?_
      rintro e w2 ⟨rfl, hb2⟩
      have hz2 := hz1.trans (hb2.mono hz1.size)
      go_wp2_with fail
      refine (H3.out _).mono ?_
      rintro e w3 ⟨rfl, hb3⟩
      have hz3 := hz2.trans (hb3.mono hz2.size)
      go_wp2_with fail
      refine (H1.out _).mono ?_
      rintro e w4 ⟨rfl, hb4⟩
      have hz4 := hz3.trans (hb4.mono hz3.size)
      go_wp2_with fail
      refine (H2.out _).mono ?_
      rintro e w5 ⟨rfl, hb5⟩
      have hz5 := hz4.trans (hb5.mono hz4.size)
      go_wp2_with fail
      refine (H4.out _).mono ?_
      rintro e w6 ⟨rfl, hb6⟩
      have hz6 := hz5.trans (hb6.mono hz5.size)
      go_wp2_with fail
      go_ret
      exact ⟨rfl, hz6⟩
    · obtain rfl : c = 0 := by simpa using hv (by omega) (by omega)
      clear hv
      go_enter Try.func6, Try.ntmps6
      go_wp2_with fail
      refine (H1.out _).mono ?_
      rintro e w1 ⟨rfl, hb1⟩
      have hz1 := hb1
      go_wp2_with fail
      refine (H2.out _).mono ?_
      rintro e w2 ⟨rfl, hb2⟩
      have hz2 := hz1.trans (hb2.mono hz1.size)
      go_wp2_with fail
      refine (H3.out _).mono ?_
      rintro e w3 ⟨rfl, hb3⟩
      have hz3 := hz2.trans (hb3.mono hz2.size)
      go_wp2_with fail
      refine (H1.out _).mono ?_
      rintro e w4 ⟨rfl, hb4⟩
      have hz4 := hz3.trans (hb4.mono hz3.size)
      go_wp2_with fail
      refine (H2.out _).mono ?_
      rintro e w5 ⟨rfl, hb5⟩
      have hz5 := hz4.trans (hb5.mono hz4.size)
      go_wp2_with fail
      refine (H4.out _).mono ?_
      rintro e w6 ⟨rfl, hb6⟩
      have hz6 := hz5.trans (hb6.mono hz5.size)
      go_wp2_with fail
      go_ret
      exact ⟨rfl, hz6⟩
    · clear hv
      go_enter Try.func6, Try.ntmps6
      go_wp2_with fail
      refine (H1.out _).mono ?_
      rintro e w1 ⟨rfl, hb1⟩
      have hz1 := hb1
      go_wp2_with fail
      refine (H2.out _).mono ?_
      rintro e w2 ⟨rfl, hb2⟩
      have hz2 := hz1.trans (hb2.mono hz1.size)
      go_wp2_with fail
      refine (H4.out _).mono ?_
      rintro e w3 ⟨rfl, hb3⟩
      have hz3 := hz2.trans (hb3.mono hz2.size)
      go_wp2_with fail
      go_ret
      exact ⟨rfl, hz3⟩
  · clear hv
    go_enter Try.func6, Try.ntmps6
    go_wp2_with fail
    refine (H1.out _).mono ?_
    rintro e w1 ⟨rfl, hb1⟩
    have hz1 := hb1
    go_wp2_with fail
    refine (H4.out _).mono ?_
    rintro e w2 ⟨rfl, hb2⟩
    have hz2 := hz1.trans (hb2.mono hz1.size)
    go_wp2_with fail
    go_ret
    exact ⟨rfl, hz2⟩

theorem walk (a0 a1 a2 : ByteArray) (w0 : a0.size ≤ maxLen) (w1 : a1.size ≤ maxLen) (w2 : a2.size ≤ maxLen) (w : World) :
    Calls Try.prog 6 #[.string a0, .string a1, .string a2] w fun e w' => e = .returned (.bool true) ∧ Below w.heap.size w w' := by
  unfold maxLen at w0 w1 w2
  have := size_len a0
  have := size_len a1
  have := size_len a2
  exact walkN a0.data.toList a1.data.toList a2.data.toList w (by omega) (by omega) (by omega)

set_option maxRecDepth 100000 in
theorem lifted (os : Os) (started : os.Started) (H : Type) (enc : TypeId × Value → H) :
    ReturnsInHanded {} Try.checked os 6 .any (Rows.fnChainSpec.pre6 enc Try.prog Try.f6 Rows.fnChainRow.domain false) (Rows.fnChainSpec.post enc Try.prog Try.f6 false true false false) := by
  refine returnsInHanded_of_change (C := Try.checked) own started (by kernel_rfl) Try.func6
    (ChangeSpec.witness6 (enc := enc) (C := Try.checked) false ⟨#[], #[.string ByteArray.empty, .string ByteArray.empty, .string ByteArray.empty], []⟩ 8 (by kernel_rfl) (by kernel_rfl) (by kernel_rfl) (by kernel_rfl)) ?_
  intro W base args ds gs before hval0 hW hcnd _
  have hval : ∀ (j : Nat) t v, Try.f6.params[j]? = some t → args[j]? = some v → Value.okWide Try.prog W .any base t v := hval0
  have hW' := hW
  obtain ⟨p, q, hA0, hV, rfl, hfz, hnd⟩ := hW
  have hA : DataW.TrodAll enc Try.prog W 0 (fun _ => true) true Try.f6.params.toList args.toList ds p := hA0
  rw [Try.params6] at hA hval
  obtain ⟨v0, vs0, d0, ds0, p0, q0, hargs, rfl, rfl, h0, r0⟩ := trodAll_cons hA
  obtain ⟨v1, vs1, d1, ds1, p1, q1, rfl, rfl, rfl, h1, r1⟩ := trodAll_cons r0
  obtain ⟨v2, vs2, d2, ds2, p2, q2, rfl, rfl, rfl, h2, r2⟩ := trodAll_cons r1
  obtain ⟨rfl, rfl, rfl⟩ := trodAll_nil r2
  obtain rfl : args = #[v0, v1, v2] := by cases args; simp_all
  obtain ⟨rfl, rfl⟩ := trodVars_none hV
  obtain ⟨a0, rfl, rfl, rfl, w0⟩ := open_string Try.underlying9 (hval 0 9 v0 rfl rfl) h0
  obtain ⟨a1, rfl, rfl, rfl, w1⟩ := open_string Try.underlying9 (hval 1 9 v1 rfl rfl) h1
  obtain ⟨a2, rfl, rfl, rfl, w2⟩ := open_string Try.underlying9 (hval 2 9 v2 rfl rfl) h2
  clear hA0 hval0
  refine (walk a0 a1 a2 w0 w1 w2 W).mono fun e W' ⟨he, bel⟩ => ?_
  subst he
  exact ⟨_, rfl, _, _, _, [], _, [], hW', trodAll_mk1 (shut_bool Try.underlying4 _), (trodAll_cons_mk (shut_string Try.underlying9 w0) (trodAll_cons_mk (shut_string Try.underlying9 w1) (trodAll_cons_mk (shut_string Try.underlying9 w2) trodAll_mk0))), rfl, bel.frame _, fun h => by cases h⟩

theorem over : Rows.fnChainRow.holds Try.pinned (OpenSpec.ofChange Rows.fnChainSpec) :=
  OpenClaim.holds_of_wide 6 Try.f6 rfl rfl rfl rfl rfl rfl rfl ⟨rfl, rfl, rfl, rfl, rfl⟩ rfl rfl rfl rfl rfl (by as_aux_lemma => kernel_rfl) Try.func6 (by as_aux_lemma => kernel_rfl)
    (of_decide_eq_true (by as_aux_lemma => kernel_rfl)) (by unfold Func.isWrapper; first | (rw [if_pos (by decide +kernel)]; kernel_rfl) | (rw [if_neg (by decide +kernel)]; exact ⟨rfl, rfl⟩))
    (fun os started H enc _ => lifted os started H enc)

/-- THE STATEMENT. -/
theorem proved : Rows.FnChainSaid :=
  over
#print axioms proved
end Go.Proofs.Ytdkcpjlcpfkehab.fnChain
