/- FnExactValid: a version is valid just if it can be taken apart; versions that are written of numbers and a stage are. Conditions: none. -/
import Derived.Test.YtdkcpjlcpfkehaaRelLaw
import Derived.Test.YtdkcpjlcpfkehaaIs
namespace Go.Proofs.Ytdkcpjlcpfkehaa.fnExactValid
open Go.ChangeShapes Go.WideShapes Go.ChangeAt Go.RowKit Plain
open Go.ChangeMaps (open_string shut_string)
set_option linter.unusedVariables false

set_option maxRecDepth 100000 in
set_option maxHeartbeats 2000000 in
theorem walkN (a b s n : Nat) (x : List UInt8) (w : World) (ha : a < 4294967296) (hb : b < 4294967296) (hs : s < 256) (hn : n < 4294967296) (hx : x.length ≤ 9223372036854775807) :
    Calls Try.prog 8 #[.int .u32 a, .int .u32 b, .int .u8 s, .int .u32 n, .string (mk x)] w fun e w' => e = .returned (.bool true) ∧ Below w.heap.size w w' := by
  by_cases h1 : 2147483647 < x.length
  · go_enter Try.func8, Try.ntmps8
    go_wp2
    go_ret
    exact ⟨rfl, by go_grown⟩
  · have hl : (textOf a b s n).length ≤ 140737488351232 := by have := textOf_len (s := s) ha hb hn; omega
    have hxl : x.length ≤ 140737488351232 := by omega
    have HT := Lib.hid (fun w => sRText a b s n w ha hb hs hn)
    have HV := Lib.hid (fun w => iIsValid (textOf a b s n) w hl)
    rw [validB_true.2 (textOf_valid a b s n)] at HV
    have HX := Lib.hid (fun w => iIsValid x w hxl)
    have HP := Lib.hid (fun w => iParse x w hxl)
    generalize textOf a b s n = t at *
    by_cases hp : parse x = zeroVer
    · rw [validB_false.2 hp] at HX
      rw [hp] at HP
      unfold verV zeroVer at HP
      simp only [] at HP
      clear hp
      go_enter Try.func8, Try.ntmps8
      go_wp2_with fail
      refine (HT.out _).mono ?_
      rintro e w1 ⟨rfl, hb1⟩
      have hb0 : Below w.heap.size w w1 := ((Below.refl _ _).alloc (Nat.le_refl _) _).trans (hb1.mono (by simp))
      clear hb1
      go_wp2_with fail
      refine (HV.out _).mono ?_
      rintro e w2 ⟨rfl, hb2⟩
      go_wp2_with fail
      refine (HX.out _).mono ?_
      rintro e w3 ⟨rfl, hb3⟩
      go_wp2_with fail
      refine (HP.out _).mono ?_
      rintro e w4 ⟨rfl, hb4⟩
      go_wp2_with fail
      go_ret
      exact ⟨rfl, ((hb0.trans (hb2.mono hb0.size)).trans (hb3.mono (Nat.le_trans hb0.size hb2.size))).trans (hb4.mono (Nat.le_trans (Nat.le_trans hb0.size hb2.size) hb3.size))⟩
    · rw [validB_true.2 hp] at HX
      have hm : (parse x).major ≠ [] := fun e => hp ((parse_zero_iff x).2 e)
      obtain ⟨⟨m, i, p, k, q⟩, hv⟩ : ∃ v, parse x = v := ⟨_, rfl⟩
      rw [hv] at HP hm
      have hb : (m == []) = false := by simpa using hm
      have hb' : m.isEmpty = false := by cases m with | nil => exact absurd rfl hm | cons => rfl
      clear hv hp hm
      unfold verV at HP
      simp only [] at HP
      go_enter Try.func8, Try.ntmps8
      go_wp2_with fail
      refine (HT.out _).mono ?_
      rintro e w1 ⟨rfl, hb1⟩
      have hb0 : Below w.heap.size w w1 := ((Below.refl _ _).alloc (Nat.le_refl _) _).trans (hb1.mono (by simp))
      clear hb1
      go_wp2_with fail
      refine (HV.out _).mono ?_
      rintro e w2 ⟨rfl, hb2⟩
      go_wp2_with fail
      refine (HX.out _).mono ?_
      rintro e w3 ⟨rfl, hb3⟩
      go_wp2_with fail
      refine (HP.out _).mono ?_
      rintro e w4 ⟨rfl, hb4⟩
      go_wp2_with fail
      go_ret
      exact ⟨rfl, ((hb0.trans (hb2.mono hb0.size)).trans (hb3.mono (Nat.le_trans hb0.size hb2.size))).trans (hb4.mono (Nat.le_trans (Nat.le_trans hb0.size hb2.size) hb3.size))⟩

theorem walk (a0 a1 a2 a3 : Int) (a4 : ByteArray) (w0 : (Lit.int .u32 a0).wf = true) (w1 : (Lit.int .u32 a1).wf = true) (w2 : (Lit.int .u8 a2).wf = true) (w3 : (Lit.int .u32 a3).wf = true) (w4 : a4.size ≤ maxLen) (w : World) :
    Calls Try.prog 8 #[.int .u32 a0, .int .u32 a1, .int .u8 a2, .int .u32 a3, .string a4] w fun e w' => e = .returned (.bool true) ∧ Below w.heap.size w w' := by
  obtain ⟨a, rfl, ha⟩ := nat_u32 w0
  obtain ⟨b, rfl, hb⟩ := nat_u32 w1
  obtain ⟨s, rfl, hs⟩ := nat_u8 w2
  obtain ⟨n, rfl, hn⟩ := nat_u32 w3
  unfold maxLen at w4
  have := size_len a4
  exact walkN a b s n a4.data.toList w ha hb hs hn (by omega)

set_option maxRecDepth 100000 in
theorem lifted (os : Os) (started : os.Started) (H : Type) (enc : TypeId × Value → H) :
    ReturnsInHanded {} Try.checked os 8 .any (Rows.fnExactValidSpec.pre6 enc Try.prog Try.f8 Rows.fnExactValidRow.domain false) (Rows.fnExactValidSpec.post enc Try.prog Try.f8 false true false false) := by
  refine returnsInHanded_of_change (C := Try.checked) own started (by kernel_rfl) Try.func8
    (ChangeSpec.witness6 (enc := enc) (C := Try.checked) false ⟨#[], #[.int .u32 0, .int .u32 0, .int .u8 0, .int .u32 0, .string ByteArray.empty], []⟩ 8 (by kernel_rfl) (by kernel_rfl) (by kernel_rfl) (by kernel_rfl)) ?_
  intro W base args ds gs before hval0 hW hcnd _
  have hval : ∀ (j : Nat) t v, Try.f8.params[j]? = some t → args[j]? = some v → Value.okWide Try.prog W .any base t v := hval0
  have hW' := hW
  obtain ⟨p, q, hA0, hV, rfl, hfz, hnd⟩ := hW
  have hA : DataW.TrodAll enc Try.prog W 0 (fun _ => true) true Try.f8.params.toList args.toList ds p := hA0
  rw [Try.params8] at hA hval
  obtain ⟨v0, vs0, d0, ds0, p0, q0, hargs, rfl, rfl, h0, r0⟩ := trodAll_cons hA
  obtain ⟨v1, vs1, d1, ds1, p1, q1, rfl, rfl, rfl, h1, r1⟩ := trodAll_cons r0
  obtain ⟨v2, vs2, d2, ds2, p2, q2, rfl, rfl, rfl, h2, r2⟩ := trodAll_cons r1
  obtain ⟨v3, vs3, d3, ds3, p3, q3, rfl, rfl, rfl, h3, r3⟩ := trodAll_cons r2
  obtain ⟨v4, vs4, d4, ds4, p4, q4, rfl, rfl, rfl, h4, r4⟩ := trodAll_cons r3
  obtain ⟨rfl, rfl, rfl⟩ := trodAll_nil r4
  obtain rfl : args = #[v0, v1, v2, v3, v4] := by cases args; simp_all
  obtain ⟨rfl, rfl⟩ := trodVars_none hV
  obtain ⟨a0, rfl, rfl, rfl, w0⟩ := open_int Try.underlying26 (hval 0 26 v0 rfl rfl) h0
  obtain ⟨a1, rfl, rfl, rfl, w1⟩ := open_int Try.underlying26 (hval 1 26 v1 rfl rfl) h1
  obtain ⟨a2, rfl, rfl, rfl, w2⟩ := open_int Try.underlying5 (hval 2 5 v2 rfl rfl) h2
  obtain ⟨a3, rfl, rfl, rfl, w3⟩ := open_int Try.underlying26 (hval 3 26 v3 rfl rfl) h3
  obtain ⟨a4, rfl, rfl, rfl, w4⟩ := open_string Try.underlying9 (hval 4 9 v4 rfl rfl) h4
  clear hA0 hval0
  refine (walk a0 a1 a2 a3 a4 w0 w1 w2 w3 w4 W).mono fun e W' ⟨he, bel⟩ => ?_
  subst he
  exact ⟨_, rfl, _, _, _, [], _, [], hW', trodAll_mk1 (shut_bool Try.underlying4 _), (trodAll_cons_mk (shut_int Try.underlying26 w0) (trodAll_cons_mk (shut_int Try.underlying26 w1) (trodAll_cons_mk (shut_int Try.underlying5 w2) (trodAll_cons_mk (shut_int Try.underlying26 w3) (trodAll_cons_mk (shut_string Try.underlying9 w4) trodAll_mk0))))), rfl, bel.frame _, fun h => by cases h⟩

theorem over : Rows.fnExactValidRow.holds Try.pinned (OpenSpec.ofChange Rows.fnExactValidSpec) :=
  OpenClaim.holds_of_wide 8 Try.f8 rfl rfl rfl rfl rfl rfl rfl ⟨rfl, rfl, rfl, rfl, rfl⟩ rfl rfl rfl rfl rfl (by as_aux_lemma => kernel_rfl) Try.func8 (by as_aux_lemma => kernel_rfl)
    (of_decide_eq_true (by as_aux_lemma => kernel_rfl)) (by unfold Func.isWrapper; first | (rw [if_pos (by decide +kernel)]; kernel_rfl) | (rw [if_neg (by decide +kernel)]; exact ⟨rfl, rfl⟩))
    (fun os started H enc _ => lifted os started H enc)

/-- THE STATEMENT. -/
theorem proved : Rows.FnExactValidSaid :=
  over
#print axioms proved
end Go.Proofs.Ytdkcpjlcpfkehaa.fnExactValid
