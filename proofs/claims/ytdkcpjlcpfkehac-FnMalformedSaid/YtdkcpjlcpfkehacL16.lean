/- FnMalformed: malformed versions are less than valid ones, and equal to each other. Conditions: none. -/
import Derived.Test.YtdkcpjlcpfkehacCmpV
import Derived.Test.YtdkcpjlcpfkehacLaw
namespace Go.Proofs.Ytdkcpjlcpfkehac.fnMalformed
open Go.ChangeShapes Go.WideShapes Go.ChangeAt Go.RowKit Plain
open Go.ChangeMaps (open_string shut_string)
set_option linter.unusedVariables false

theorem cLang : cmpX [49, 46, 50, 49] [49, 46, 50, 49, 46, 48] = -1 := by decide +kernel
theorem rcValid : parse [49, 46, 50, 49, 114, 99, 49] ≠ zeroVer := fun e => by
  have := congrArg Ver.major e
  have h : (parse [49, 46, 50, 49, 114, 99, 49]).major = [49] := by decide +kernel
  rw [h] at this
  simp [zeroVer] at this

set_option maxRecDepth 100000 in
set_option maxHeartbeats 4000000 in
theorem walkN (x y : List UInt8) (w : World) (hx : x.length ≤ 9223372036854775807) (hy : y.length ≤ 9223372036854775807) :
    Calls Try.prog 6 #[.string (mk x), .string (mk y)] w fun e w' => e = .returned (.bool true) ∧ Below w.heap.size w w' := by
  by_cases h1 : 2147483647 < x.length
  · go_enter Try.func6, Try.ntmps6
    go_wp2
    go_ret
    exact ⟨rfl, by go_grown⟩
  by_cases h2 : 2147483647 < y.length
  · go_enter Try.func6, Try.ntmps6
    go_wp2
    go_ret
    exact ⟨rfl, by go_grown⟩
  have HP := Lib.hid (fun w => iIsValid x w (by omega))
  have HQ := Lib.hid (fun w => iIsValid y w (by omega))
  have HC := Lib.hid (fun w => iCompare x y w (by omega) (by omega))
  have HR := Lib.hid (fun w => iCompare [49, 46, 50, 49, 114, 99, 49] x w (by simp) (by omega))
  have HS := Lib.hid (fun w => iCompare x [49, 46, 50, 49, 114, 99, 49] w (by omega) (by simp))
  have HL := Lib.hid (fun w => iCompare [49, 46, 50, 49] [49, 46, 50, 49, 46, 48] w (by simp) (by simp))
  rw [cLang] at HL
  by_cases hp : parse x = zeroVer
  · rw [validB_false.2 hp] at HP
    rw [cmpX_valid_not rcValid hp] at HR
    by_cases hq : parse y = zeroVer
    · rw [validB_false.2 hq] at HQ
      rw [cmpX_not_not hp hq] at HC
      clear hp hq HS
      go_enter Try.func6, Try.ntmps6
      go_wp2_with fail
      refine (HP.out _).mono ?_
      rintro e w1 ⟨rfl, hb1⟩
      have hz1 := hb1
      go_wp2_with fail
      refine (HQ.out _).mono ?_
      rintro e w2 ⟨rfl, hb2⟩
      have hz2 := hz1.trans (hb2.mono hz1.size)
      go_wp2_with fail
      refine (HC.out _).mono ?_
      rintro e w3 ⟨rfl, hb3⟩
      have hz3 := hz2.trans (hb3.mono hz2.size)
      go_wp2_with fail
      refine (HR.out _).mono ?_
      rintro e w4 ⟨rfl, hb4⟩
      have hz4 := hz3.trans (hb4.mono hz3.size)
      go_wp2_with fail
      refine (HL.out _).mono ?_
      rintro e w5 ⟨rfl, hb5⟩
      have hz5 := hz4.trans (hb5.mono hz4.size)
      go_wp2_with fail
      go_ret
      exact ⟨rfl, hz5⟩
    · rw [validB_true.2 hq] at HQ
      rw [cmpX_not_valid hp hq] at HC
      clear hp hq HS
      go_enter Try.func6, Try.ntmps6
      go_wp2_with fail
      refine (HP.out _).mono ?_
      rintro e w1 ⟨rfl, hb1⟩
      have hz1 := hb1
      go_wp2_with fail
      refine (HQ.out _).mono ?_
      rintro e w2 ⟨rfl, hb2⟩
      have hz2 := hz1.trans (hb2.mono hz1.size)
      go_wp2_with fail
      refine (HC.out _).mono ?_
      rintro e w3 ⟨rfl, hb3⟩
      have hz3 := hz2.trans (hb3.mono hz2.size)
      go_wp2_with fail
      refine (HR.out _).mono ?_
      rintro e w4 ⟨rfl, hb4⟩
      have hz4 := hz3.trans (hb4.mono hz3.size)
      go_wp2_with fail
      refine (HL.out _).mono ?_
      rintro e w5 ⟨rfl, hb5⟩
      have hz5 := hz4.trans (hb5.mono hz4.size)
      go_wp2_with fail
      go_ret
      exact ⟨rfl, hz5⟩
  · rw [validB_true.2 hp] at HP
    by_cases hq : parse y = zeroVer
    · rw [validB_false.2 hq] at HQ
      rw [cmpX_valid_not hp hq] at HC
      have hr := cmpX_range [49, 46, 50, 49, 114, 99, 49] x
      rw [cmpX_anti [49, 46, 50, 49, 114, 99, 49] x] at HS
      generalize cmpX [49, 46, 50, 49, 114, 99, 49] x = c at *
      clear hp hq
      rcases hr with rfl | rfl | rfl
      all_goals
        go_enter Try.func6, Try.ntmps6
        go_wp2_with fail
        refine (HP.out _).mono ?_
        rintro e w1 ⟨rfl, hb1⟩
        have hz1 := hb1
        go_wp2_with fail
        refine (HQ.out _).mono ?_
        rintro e w2 ⟨rfl, hb2⟩
        have hz2 := hz1.trans (hb2.mono hz1.size)
        go_wp2_with fail
        refine (HC.out _).mono ?_
        rintro e w3 ⟨rfl, hb3⟩
        have hz3 := hz2.trans (hb3.mono hz2.size)
        go_wp2_with fail
        refine (HR.out _).mono ?_
        rintro e w4 ⟨rfl, hb4⟩
        have hz4 := hz3.trans (hb4.mono hz3.size)
        go_wp2_with fail
        refine (HS.out _).mono ?_
        rintro e w5 ⟨rfl, hb5⟩
        have hz5 := hz4.trans (hb5.mono hz4.size)
        go_wp2_with fail
        refine (HL.out _).mono ?_
        rintro e w6 ⟨rfl, hb6⟩
        have hz6 := hz5.trans (hb6.mono hz5.size)
        go_wp2_with fail
        go_ret
        exact ⟨rfl, hz6⟩
    · rw [validB_true.2 hq] at HQ
      have HX := Lib.hid (fun w => iParse x w (by omega))
      have hm : (parse x).major ≠ [] := fun e => hp ((parse_zero_iff x).2 e)
      obtain ⟨⟨m, i, p, k, q⟩, hv⟩ : ∃ v, parse x = v := ⟨_, rfl⟩
      rw [hv] at HX hm
      have hb : (m == []) = false := by simpa using hm
      have hb' : m.isEmpty = false := by cases m with | nil => exact absurd rfl hm | cons => rfl
      clear hv hp hq hm HC HR HS HL
      unfold verV at HX
      simp only [] at HX
      go_enter Try.func6, Try.ntmps6
      go_wp2_with fail
      refine (HP.out _).mono ?_
      rintro e w1 ⟨rfl, hb1⟩
      have hz1 := hb1
      go_wp2_with fail
      refine (HQ.out _).mono ?_
      rintro e w2 ⟨rfl, hb2⟩
      have hz2 := hz1.trans (hb2.mono hz1.size)
      go_wp2_with fail
      refine (HX.out _).mono ?_
      rintro e w3 ⟨rfl, hb3⟩
      have hz3 := hz2.trans (hb3.mono hz2.size)
      go_wp2_with fail
      go_ret
      exact ⟨rfl, hz3⟩

theorem walk (a0 a1 : ByteArray) (w0 : a0.size ≤ maxLen) (w1 : a1.size ≤ maxLen) (w : World) :
    Calls Try.prog 6 #[.string a0, .string a1] w fun e w' => e = .returned (.bool true) ∧ Below w.heap.size w w' := by
  unfold maxLen at w0 w1
  have := size_len a0
  have := size_len a1
  exact walkN a0.data.toList a1.data.toList w (by omega) (by omega)

set_option maxRecDepth 100000 in
theorem lifted (os : Os) (started : os.Started) (H : Type) (enc : TypeId × Value → H) :
    ReturnsInHanded {} Try.checked os 6 .any (Rows.fnMalformedSpec.pre6 enc Try.prog Try.f6 Rows.fnMalformedRow.domain false) (Rows.fnMalformedSpec.post enc Try.prog Try.f6 false true false false) := by
  refine returnsInHanded_of_change (C := Try.checked) own started (by kernel_rfl) Try.func6
    (ChangeSpec.witness6 (enc := enc) (C := Try.checked) false ⟨#[], #[.string ByteArray.empty, .string ByteArray.empty], []⟩ 8 (by kernel_rfl) (by kernel_rfl) (by kernel_rfl) (by kernel_rfl)) ?_
  intro W base args ds gs before hval0 hW hcnd _
  have hval : ∀ (j : Nat) t v, Try.f6.params[j]? = some t → args[j]? = some v → Value.okWide Try.prog W .any base t v := hval0
  have hW' := hW
  obtain ⟨p, q, hA0, hV, rfl, hfz, hnd⟩ := hW
  have hA : DataW.TrodAll enc Try.prog W 0 (fun _ => true) true Try.f6.params.toList args.toList ds p := hA0
  rw [Try.params6] at hA hval
  obtain ⟨v0, vs0, d0, ds0, p0, q0, hargs, rfl, rfl, h0, r0⟩ := trodAll_cons hA
  obtain ⟨v1, vs1, d1, ds1, p1, q1, rfl, rfl, rfl, h1, r1⟩ := trodAll_cons r0
  obtain ⟨rfl, rfl, rfl⟩ := trodAll_nil r1
  obtain rfl : args = #[v0, v1] := by cases args; simp_all
  obtain ⟨rfl, rfl⟩ := trodVars_none hV
  obtain ⟨a0, rfl, rfl, rfl, w0⟩ := open_string Try.underlying9 (hval 0 9 v0 rfl rfl) h0
  obtain ⟨a1, rfl, rfl, rfl, w1⟩ := open_string Try.underlying9 (hval 1 9 v1 rfl rfl) h1
  clear hA0 hval0
  refine (walk a0 a1 w0 w1 W).mono fun e W' ⟨he, bel⟩ => ?_
  subst he
  exact ⟨_, rfl, _, _, _, [], _, [], hW', trodAll_mk1 (shut_bool Try.underlying4 _), (trodAll_cons_mk (shut_string Try.underlying9 w0) (trodAll_cons_mk (shut_string Try.underlying9 w1) trodAll_mk0)), rfl, bel.frame _, fun h => by cases h⟩

theorem over : Rows.fnMalformedRow.holds Try.pinned (OpenSpec.ofChange Rows.fnMalformedSpec) :=
  OpenClaim.holds_of_wide 6 Try.f6 rfl rfl rfl rfl rfl rfl rfl ⟨rfl, rfl, rfl, rfl, rfl⟩ rfl rfl rfl rfl rfl (by as_aux_lemma => kernel_rfl) Try.func6 (by as_aux_lemma => kernel_rfl)
    (of_decide_eq_true (by as_aux_lemma => kernel_rfl)) (by unfold Func.isWrapper; first | (rw [if_pos (by decide +kernel)]; kernel_rfl) | (rw [if_neg (by decide +kernel)]; exact ⟨rfl, rfl⟩))
    (fun os started H enc _ => lifted os started H enc)

/-- THE STATEMENT. -/
theorem proved : Rows.FnMalformedSaid :=
  over
#print axioms proved
end Go.Proofs.Ytdkcpjlcpfkehac.fnMalformed
