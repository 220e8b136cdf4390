/- FnExactMax: the greater one of two versions is the one that is not less, the first one if both are equal. Conditions: none. -/
import Derived.Test.YtdkcpjlcpfkehacCmpV
import Derived.Test.YtdkcpjlcpfkehacLaw
namespace Go.Proofs.Ytdkcpjlcpfkehac.fnExactMax
open Go.ChangeShapes Go.WideShapes Go.ChangeAt Go.RowKit Plain
open Go.ChangeMaps (open_string shut_string)
set_option linter.unusedVariables false

set_option maxHeartbeats 1000000 in
theorem gMax_less (x y : List UInt8) (w : World) (hx : x.length ≤ 140737488351232) (hy : y.length ≤ 140737488351232) (h : cmpX x y < 0) :
    Calls Try.prog 22 #[.string (mk x), .string (mk y)] w fun e w' => e = .returned (.string (mk y)) ∧ Below w.heap.size w w' := by
  have H := Lib.hid (gCompare x y)
  generalize cmpX x y = c at *
  go_enter Try.func22, Try.ntmps22
  go_wp2_with fail
  refine (H.out _ hx hy).mono ?_
  rintro e w' ⟨rfl, hb⟩
  go_wp2_with fail
  go_ret
  exact ⟨rfl, hb⟩

set_option maxHeartbeats 1000000 in
theorem gMax_else (x y : List UInt8) (w : World) (hx : x.length ≤ 140737488351232) (hy : y.length ≤ 140737488351232) (h : 0 ≤ cmpX x y) :
    Calls Try.prog 22 #[.string (mk x), .string (mk y)] w fun e w' => e = .returned (.string (mk x)) ∧ Below w.heap.size w w' := by
  have H := Lib.hid (gCompare x y)
  generalize cmpX x y = c at *
  go_enter Try.func22, Try.ntmps22
  go_wp2_with fail
  refine (H.out _ hx hy).mono ?_
  rintro e w' ⟨rfl, hb⟩
  go_wp2_with fail
  go_ret
  exact ⟨rfl, hb⟩

theorem iMax_of (x y z : List UInt8) (w : World) (H : Hid (∀ w, Calls Try.prog 22 #[.string (mk x), .string (mk y)] w fun e w' => e = .returned (.string (mk z)) ∧ Below w.heap.size w w')) :
    Calls Try.prog 13 #[.string (mk x), .string (mk y)] w fun e w' => e = .returned (.string (mk z)) ∧ Below w.heap.size w w' := by
  go_enter Try.func13, Try.ntmps13
  go_wp2_with fail
  refine (H.out _).mono ?_
  rintro e w' ⟨rfl, hb⟩
  go_wp2_with fail
  go_ret
  exact ⟨rfl, hb⟩

set_option maxRecDepth 100000 in
set_option maxHeartbeats 2000000 in
theorem walkN (x y : List UInt8) (w : World) (hx : x.length ≤ 9223372036854775807) (hy : y.length ≤ 9223372036854775807) :
    Calls Try.prog 5 #[.string (mk x), .string (mk y)] w fun e w' => e = .returned (.bool true) ∧ Below w.heap.size w w' := by
  by_cases h1 : 2147483647 < x.length
  · go_enter Try.func5, Try.ntmps5
    go_wp2
    go_ret
    exact ⟨rfl, by go_grown⟩
  · by_cases h2 : 2147483647 < y.length
    · go_enter Try.func5, Try.ntmps5
      go_wp2
      go_ret
      exact ⟨rfl, by go_grown⟩
    · have H1 := Lib.hid (fun w => iCompare x y w (by omega) (by omega))
      by_cases hc : cmpX x y < 0
      · have HM := Lib.hid (fun w => iMax_of x y y w (Lib.hid fun w => gMax_less x y w (by omega) (by omega) hc))
        generalize cmpX x y = c at *
        go_enter Try.func5, Try.ntmps5
        go_wp2_with fail
        refine (H1.out _).mono ?_
        rintro e w1 ⟨rfl, hb1⟩
        go_wp2_with fail
        refine (HM.out _).mono ?_
        rintro e w2 ⟨rfl, hb2⟩
        go_wp2_with fail
        go_ret
        exact ⟨ret_bool (by simp), hb1.trans (hb2.mono hb1.size)⟩
      · have HM := Lib.hid (fun w => iMax_of x y x w (Lib.hid fun w => gMax_else x y w (by omega) (by omega) (by omega)))
        have hc' : 0 ≤ cmpX x y := by omega
        clear hc
        generalize cmpX x y = c at *
        go_enter Try.func5, Try.ntmps5
        go_wp2_with fail
        refine (H1.out _).mono ?_
        rintro e w1 ⟨rfl, hb1⟩
        go_wp2_with fail
        refine (HM.out _).mono ?_
        rintro e w2 ⟨rfl, hb2⟩
        go_wp2_with fail
        go_ret
        exact ⟨ret_bool (by simp), hb1.trans (hb2.mono hb1.size)⟩

theorem walk (a0 a1 : ByteArray) (w0 : a0.size ≤ maxLen) (w1 : a1.size ≤ maxLen) (w : World) :
    Calls Try.prog 5 #[.string a0, .string a1] w fun e w' => e = .returned (.bool true) ∧ Below w.heap.size w w' := by
  unfold maxLen at w0 w1
  have := size_len a0
  have := size_len a1
  exact walkN a0.data.toList a1.data.toList w (by omega) (by omega)

set_option maxRecDepth 100000 in
theorem lifted (os : Os) (started : os.Started) (H : Type) (enc : TypeId × Value → H) :
    ReturnsInHanded {} Try.checked os 5 .any (Rows.fnExactMaxSpec.pre6 enc Try.prog Try.f5 Rows.fnExactMaxRow.domain false) (Rows.fnExactMaxSpec.post enc Try.prog Try.f5 false true false false) := by
  refine returnsInHanded_of_change (C := Try.checked) own started (by kernel_rfl) Try.func5
    (ChangeSpec.witness6 (enc := enc) (C := Try.checked) false ⟨#[], #[.string ByteArray.empty, .string ByteArray.empty], []⟩ 8 (by kernel_rfl) (by kernel_rfl) (by kernel_rfl) (by kernel_rfl)) ?_
  intro W base args ds gs before hval0 hW hcnd _
  have hval : ∀ (j : Nat) t v, Try.f5.params[j]? = some t → args[j]? = some v → Value.okWide Try.prog W .any base t v := hval0
  have hW' := hW
  obtain ⟨p, q, hA0, hV, rfl, hfz, hnd⟩ := hW
  have hA : DataW.TrodAll enc Try.prog W 0 (fun _ => true) true Try.f5.params.toList args.toList ds p := hA0
  rw [Try.params5] at hA hval
  obtain ⟨v0, vs0, d0, ds0, p0, q0, hargs, rfl, rfl, h0, r0⟩ := trodAll_cons hA
  obtain ⟨v1, vs1, d1, ds1, p1, q1, rfl, rfl, rfl, h1, r1⟩ := trodAll_cons r0
  obtain ⟨rfl, rfl, rfl⟩ := trodAll_nil r1
  obtain rfl : args = #[v0, v1] := by cases args; simp_all
  obtain ⟨rfl, rfl⟩ := trodVars_none hV
  obtain ⟨a0, rfl, rfl, rfl, w0⟩ := open_string Try.underlying9 (hval 0 9 v0 rfl rfl) h0
  obtain ⟨a1, rfl, rfl, rfl, w1⟩ := open_string Try.underlying9 (hval 1 9 v1 rfl rfl) h1
  clear hA0 hval0
  refine (walk a0 a1 w0 w1 W).mono fun e W' ⟨he, bel⟩ => ?_
  subst he
  exact ⟨_, rfl, _, _, _, [], _, [], hW', trodAll_mk1 (shut_bool Try.underlying4 _), (trodAll_cons_mk (shut_string Try.underlying9 w0) (trodAll_cons_mk (shut_string Try.underlying9 w1) trodAll_mk0)), rfl, bel.frame _, fun h => by cases h⟩

theorem over : Rows.fnExactMaxRow.holds Try.pinned (OpenSpec.ofChange Rows.fnExactMaxSpec) :=
  OpenClaim.holds_of_wide 5 Try.f5 rfl rfl rfl rfl rfl rfl rfl ⟨rfl, rfl, rfl, rfl, rfl⟩ rfl rfl rfl rfl rfl (by as_aux_lemma => kernel_rfl) Try.func5 (by as_aux_lemma => kernel_rfl)
    (of_decide_eq_true (by as_aux_lemma => kernel_rfl)) (by unfold Func.isWrapper; first | (rw [if_pos (by decide +kernel)]; kernel_rfl) | (rw [if_neg (by decide +kernel)]; exact ⟨rfl, rfl⟩))
    (fun os started H enc _ => lifted os started H enc)

/-- THE STATEMENT. -/
theorem proved : Rows.FnExactMaxSaid :=
  over
#print axioms proved
end Go.Proofs.Ytdkcpjlcpfkehac.fnExactMax
