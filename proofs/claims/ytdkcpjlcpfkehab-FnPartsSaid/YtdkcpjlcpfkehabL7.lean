/- FnParts: the numbers of a valid version are decimal, without a zero in front, or missing behind the major one. Conditions: none. -/
import Derived.Test.YtdkcpjlcpfkehabIs
import Derived.Test.YtdkcpjlcpfkehabDig
import Derived.Test.YtdkcpjlcpfkehabLaw
namespace Go.Proofs.Ytdkcpjlcpfkehab.fnParts
open Go.ChangeShapes Go.WideShapes Go.ChangeAt Go.RowKit Plain
open Go.ChangeMaps (open_string shut_string)
set_option linter.unusedVariables false

theorem valid121 : parse [49, 46, 50, 49] ≠ zeroVer := fun e => by
  have := congrArg Ver.major e
  have h : (parse [49, 46, 50, 49]).major = [49] := by decide +kernel
  rw [h] at this
  simp [zeroVer] at this

theorem emp {m : List UInt8} (h : m ≠ []) : m.isEmpty = false := by cases m with | nil => exact absurd rfl h | cons => rfl

set_option maxRecDepth 100000 in
set_option maxHeartbeats 2000000 in
theorem walk_not (x : List UInt8) (w : World) (hx : ¬ 2147483647 < x.length) (hp : parse x = zeroVer) :
    Calls Try.prog 3 #[.string (mk x)] w fun e w' => e = .returned (.bool true) ∧ Below w.heap.size w w' := by
  have HP := Lib.hid (fun w => iParse x w (by omega))
  have HV := Lib.hid (fun w => iIsValid x w (by omega))
  have HW := Lib.hid (fun w => iIsValid [49, 46, 50, 49] w (by simp))
  rw [hp] at HP
  rw [validB_false.2 hp] at HV
  rw [validB_true.2 valid121] at HW
  unfold verV zeroVer at HP
  simp only [] at HP
  clear hp
  go_enter Try.func3, Try.ntmps3
  go_wp2_with fail
  refine (HP.out _).mono ?_
  rintro e w1 ⟨rfl, hb1⟩
  have hz1 := hb1.alloc hb1.size (.cells #[.string (mk []), .string (mk []), .string (mk []), .string (mk []), .string (mk [])] 23)
  go_wp2_with fail
  refine (HV.out _).mono ?_
  rintro e w2 ⟨rfl, hb2⟩
  go_wp2_with fail
  refine (HW.out _).mono ?_
  rintro e w3 ⟨rfl, hb3⟩
  go_wp2_with fail
  go_ret
  exact ⟨rfl, (hz1.trans (hb2.mono (by have := hb1.size; simp; omega))).trans (hb3.mono (by have := hb1.size; have := hb2.size; simp at this; omega))⟩

set_option maxRecDepth 100000 in
set_option maxHeartbeats 2000000 in
theorem walk_000 (x m i : List UInt8) (w : World) (hx : ¬ 2147483647 < x.length) (hv : parse x = ⟨m, i, [], [], []⟩) (nm : Num m) (ni : Num i) (lm : m.length ≤ 140737488351232) (li : i.length ≤ 140737488351232) :
    Calls Try.prog 3 #[.string (mk x)] w fun e w' => e = .returned (.bool true) ∧ Below w.heap.size w w' := by
  have HP := Lib.hid (fun w => iParse x w (by omega))
  rw [hv] at HP
  unfold verV at HP
  simp only [] at HP
  have D1 := Lib.hid (fun w => sDigits_yes (mk m) w (by rw [mk_size]; exact lm) nm)
  have D2 := Lib.hid (fun w => sDigits_yes (mk i) w (by rw [mk_size]; exact li) ni)
  have e1 := emp nm.2.1
  have b1 : (m == []) = false := by simpa using nm.2.1
  have e2 := emp ni.2.1
  clear hv nm ni lm li
  go_enter Try.func3, Try.ntmps3
  go_wp2_with fail
  refine (HP.out _).mono ?_
  rintro e w1 ⟨rfl, hb1⟩
  go_wp2_with fail
  refine (D1.out _).mono ?_
  rintro e w2 ⟨rfl, rfl⟩
  go_wp2_with fail
  refine (D2.out _).mono ?_
  rintro e w2 ⟨rfl, rfl⟩
  go_wp2_with fail
  go_ret
  exact ⟨rfl, hb1.alloc hb1.size _⟩

set_option maxRecDepth 100000 in
set_option maxHeartbeats 2000000 in
theorem walk_010 (x m i k : List UInt8) (w : World) (hx : ¬ 2147483647 < x.length) (hv : parse x = ⟨m, i, [], k, []⟩) (nm : Num m) (ni : Num i) (hk : k ≠ []) (lm : m.length ≤ 140737488351232) (li : i.length ≤ 140737488351232) :
    Calls Try.prog 3 #[.string (mk x)] w fun e w' => e = .returned (.bool true) ∧ Below w.heap.size w w' := by
  have HP := Lib.hid (fun w => iParse x w (by omega))
  rw [hv] at HP
  unfold verV at HP
  simp only [] at HP
  have D1 := Lib.hid (fun w => sDigits_yes (mk m) w (by rw [mk_size]; exact lm) nm)
  have D2 := Lib.hid (fun w => sDigits_yes (mk i) w (by rw [mk_size]; exact li) ni)
  have e5 := emp hk
  have e1 := emp nm.2.1
  have b1 : (m == []) = false := by simpa using nm.2.1
  have e2 := emp ni.2.1
  clear hv nm ni lm li hk
  go_enter Try.func3, Try.ntmps3
  go_wp2_with fail
  refine (HP.out _).mono ?_
  rintro e w1 ⟨rfl, hb1⟩
  go_wp2_with fail
  refine (D1.out _).mono ?_
  rintro e w2 ⟨rfl, rfl⟩
  go_wp2_with fail
  refine (D2.out _).mono ?_
  rintro e w2 ⟨rfl, rfl⟩
  go_wp2_with fail
  go_ret
  exact ⟨rfl, hb1.alloc hb1.size _⟩

set_option maxRecDepth 100000 in
set_option maxHeartbeats 2000000 in
theorem walk_011 (x m i k q : List UInt8) (w : World) (hx : ¬ 2147483647 < x.length) (hv : parse x = ⟨m, i, [], k, q⟩) (nm : Num m) (ni : Num i) (hk : k ≠ []) (nq : Num q) (lm : m.length ≤ 140737488351232) (li : i.length ≤ 140737488351232) (lq : q.length ≤ 140737488351232) :
    Calls Try.prog 3 #[.string (mk x)] w fun e w' => e = .returned (.bool true) ∧ Below w.heap.size w w' := by
  have HP := Lib.hid (fun w => iParse x w (by omega))
  rw [hv] at HP
  unfold verV at HP
  simp only [] at HP
  have D1 := Lib.hid (fun w => sDigits_yes (mk m) w (by rw [mk_size]; exact lm) nm)
  have D2 := Lib.hid (fun w => sDigits_yes (mk i) w (by rw [mk_size]; exact li) ni)
  have D4 := Lib.hid (fun w => sDigits_yes (mk q) w (by rw [mk_size]; exact lq) nq)
  have e4 := emp nq.2.1
  have e5 := emp hk
  have e1 := emp nm.2.1
  have b1 : (m == []) = false := by simpa using nm.2.1
  have e2 := emp ni.2.1
  clear hv nm ni lm li nq lq hk
  go_enter Try.func3, Try.ntmps3
  go_wp2_with fail
  refine (HP.out _).mono ?_
  rintro e w1 ⟨rfl, hb1⟩
  go_wp2_with fail
  refine (D1.out _).mono ?_
  rintro e w2 ⟨rfl, rfl⟩
  go_wp2_with fail
  refine (D2.out _).mono ?_
  rintro e w2 ⟨rfl, rfl⟩
  go_wp2_with fail
  refine (D4.out _).mono ?_
  rintro e w2 ⟨rfl, rfl⟩
  go_wp2_with fail
  go_ret
  exact ⟨rfl, hb1.alloc hb1.size _⟩

set_option maxRecDepth 100000 in
set_option maxHeartbeats 2000000 in
theorem walk_100 (x m i p : List UInt8) (w : World) (hx : ¬ 2147483647 < x.length) (hv : parse x = ⟨m, i, p, [], []⟩) (nm : Num m) (ni : Num i) (np : Num p) (lm : m.length ≤ 140737488351232) (li : i.length ≤ 140737488351232) (lp : p.length ≤ 140737488351232) :
    Calls Try.prog 3 #[.string (mk x)] w fun e w' => e = .returned (.bool true) ∧ Below w.heap.size w w' := by
  have HP := Lib.hid (fun w => iParse x w (by omega))
  rw [hv] at HP
  unfold verV at HP
  simp only [] at HP
  have D1 := Lib.hid (fun w => sDigits_yes (mk m) w (by rw [mk_size]; exact lm) nm)
  have D2 := Lib.hid (fun w => sDigits_yes (mk i) w (by rw [mk_size]; exact li) ni)
  have D3 := Lib.hid (fun w => sDigits_yes (mk p) w (by rw [mk_size]; exact lp) np)
  have e3 := emp np.2.1
  have e1 := emp nm.2.1
  have b1 : (m == []) = false := by simpa using nm.2.1
  have e2 := emp ni.2.1
  clear hv nm ni lm li np lp
  go_enter Try.func3, Try.ntmps3
  go_wp2_with fail
  refine (HP.out _).mono ?_
  rintro e w1 ⟨rfl, hb1⟩
  go_wp2_with fail
  refine (D1.out _).mono ?_
  rintro e w2 ⟨rfl, rfl⟩
  go_wp2_with fail
  refine (D2.out _).mono ?_
  rintro e w2 ⟨rfl, rfl⟩
  go_wp2_with fail
  refine (D3.out _).mono ?_
  rintro e w2 ⟨rfl, rfl⟩
  go_wp2_with fail
  go_ret
  exact ⟨rfl, hb1.alloc hb1.size _⟩

set_option maxRecDepth 100000 in
set_option maxHeartbeats 2000000 in
theorem walk_110 (x m i p k : List UInt8) (w : World) (hx : ¬ 2147483647 < x.length) (hv : parse x = ⟨m, i, p, k, []⟩) (nm : Num m) (ni : Num i) (np : Num p) (hk : k ≠ []) (lm : m.length ≤ 140737488351232) (li : i.length ≤ 140737488351232) (lp : p.length ≤ 140737488351232) :
    Calls Try.prog 3 #[.string (mk x)] w fun e w' => e = .returned (.bool true) ∧ Below w.heap.size w w' := by
  have HP := Lib.hid (fun w => iParse x w (by omega))
  rw [hv] at HP
  unfold verV at HP
  simp only [] at HP
  have D1 := Lib.hid (fun w => sDigits_yes (mk m) w (by rw [mk_size]; exact lm) nm)
  have D2 := Lib.hid (fun w => sDigits_yes (mk i) w (by rw [mk_size]; exact li) ni)
  have D3 := Lib.hid (fun w => sDigits_yes (mk p) w (by rw [mk_size]; exact lp) np)
  have e3 := emp np.2.1
  have e5 := emp hk
  have e1 := emp nm.2.1
  have b1 : (m == []) = false := by simpa using nm.2.1
  have e2 := emp ni.2.1
  clear hv nm ni lm li np lp hk
  go_enter Try.func3, Try.ntmps3
  go_wp2_with fail
  refine (HP.out _).mono ?_
  rintro e w1 ⟨rfl, hb1⟩
  go_wp2_with fail
  refine (D1.out _).mono ?_
  rintro e w2 ⟨rfl, rfl⟩
  go_wp2_with fail
  refine (D2.out _).mono ?_
  rintro e w2 ⟨rfl, rfl⟩
  go_wp2_with fail
  refine (D3.out _).mono ?_
  rintro e w2 ⟨rfl, rfl⟩
  go_wp2_with fail
  go_ret
  exact ⟨rfl, hb1.alloc hb1.size _⟩

set_option maxRecDepth 100000 in
set_option maxHeartbeats 2000000 in
theorem walk_111 (x m i p k q : List UInt8) (w : World) (hx : ¬ 2147483647 < x.length) (hv : parse x = ⟨m, i, p, k, q⟩) (nm : Num m) (ni : Num i) (np : Num p) (hk : k ≠ []) (nq : Num q) (lm : m.length ≤ 140737488351232) (li : i.length ≤ 140737488351232) (lp : p.length ≤ 140737488351232) (lq : q.length ≤ 140737488351232) :
    Calls Try.prog 3 #[.string (mk x)] w fun e w' => e = .returned (.bool true) ∧ Below w.heap.size w w' := by
  have HP := Lib.hid (fun w => iParse x w (by omega))
  rw [hv] at HP
  unfold verV at HP
  simp only [] at HP
  have D1 := Lib.hid (fun w => sDigits_yes (mk m) w (by rw [mk_size]; exact lm) nm)
  have D2 := Lib.hid (fun w => sDigits_yes (mk i) w (by rw [mk_size]; exact li) ni)
  have D3 := Lib.hid (fun w => sDigits_yes (mk p) w (by rw [mk_size]; exact lp) np)
  have e3 := emp np.2.1
  have D4 := Lib.hid (fun w => sDigits_yes (mk q) w (by rw [mk_size]; exact lq) nq)
  have e4 := emp nq.2.1
  have e5 := emp hk
  have e1 := emp nm.2.1
  have b1 : (m == []) = false := by simpa using nm.2.1
  have e2 := emp ni.2.1
  clear hv nm ni lm li np lp nq lq hk
  go_enter Try.func3, Try.ntmps3
  go_wp2_with fail
  refine (HP.out _).mono ?_
  rintro e w1 ⟨rfl, hb1⟩
  go_wp2_with fail
  refine (D1.out _).mono ?_
  rintro e w2 ⟨rfl, rfl⟩
  go_wp2_with fail
  refine (D2.out _).mono ?_
  rintro e w2 ⟨rfl, rfl⟩
  go_wp2_with fail
  refine (D3.out _).mono ?_
  rintro e w2 ⟨rfl, rfl⟩
  go_wp2_with fail
  refine (D4.out _).mono ?_
  rintro e w2 ⟨rfl, rfl⟩
  go_wp2_with fail
  go_ret
  exact ⟨rfl, hb1.alloc hb1.size _⟩

theorem walkN (x : List UInt8) (w : World) (hx : x.length ≤ 9223372036854775807) :
    Calls Try.prog 3 #[.string (mk x)] w fun e w' => e = .returned (.bool true) ∧ Below w.heap.size w w' := by
  by_cases h1 : 2147483647 < x.length
  · go_enter Try.func3, Try.ntmps3
    go_wp2
    go_ret
    exact ⟨rfl, by go_grown⟩
  rcases parse_cases x with hp | hp
  · exact walk_not x w h1 hp
  obtain ⟨nm, ni, np, nq, nk, _, _⟩ := form_parts hp
  have hl := parse_len x
  obtain ⟨⟨m, i, p, k, q⟩, hv⟩ : ∃ v, parse x = v := ⟨_, rfl⟩
  rw [hv] at nm ni np nq nk hl
  simp only [] at nm ni np nq nk hl
  by_cases hk : k = []
  · subst hk
    have hq : q = [] := by
      rcases nk with h | h
      · exact absurd rfl h
      · exact h
    subst hq
    rcases np with rfl | np
    · exact walk_000 x m i w h1 hv nm ni (by omega) (by omega)
    · exact walk_100 x m i p w h1 hv nm ni np (by omega) (by omega) (by omega)
  · rcases np with rfl | np
    · rcases nq with rfl | nq
      · exact walk_010 x m i k w h1 hv nm ni hk (by omega) (by omega)
      · exact walk_011 x m i k q w h1 hv nm ni hk nq (by omega) (by omega) (by omega)
    · rcases nq with rfl | nq
      · exact walk_110 x m i p k w h1 hv nm ni np hk (by omega) (by omega) (by omega)
      · exact walk_111 x m i p k q w h1 hv nm ni np hk nq (by omega) (by omega) (by omega) (by omega)

theorem walk (a0 : ByteArray) (w0 : a0.size ≤ maxLen) (w : World) :
    Calls Try.prog 3 #[.string a0] w fun e w' => e = .returned (.bool true) ∧ Below w.heap.size w w' := by
  unfold maxLen at w0
  have := size_len a0
  exact walkN a0.data.toList w (by omega)

set_option maxRecDepth 100000 in
theorem lifted (os : Os) (started : os.Started) (H : Type) (enc : TypeId × Value → H) :
    ReturnsInHanded {} Try.checked os 3 .any (Rows.fnPartsSpec.pre6 enc Try.prog Try.f3 Rows.fnPartsRow.domain false) (Rows.fnPartsSpec.post enc Try.prog Try.f3 false true false false) := by
  refine returnsInHanded_of_change (C := Try.checked) own started (by kernel_rfl) Try.func3
    (ChangeSpec.witness6 (enc := enc) (C := Try.checked) false ⟨#[], #[.string ByteArray.empty], []⟩ 8 (by kernel_rfl) (by kernel_rfl) (by kernel_rfl) (by kernel_rfl)) ?_
  intro W base args ds gs before hval0 hW hcnd _
  have hval : ∀ (j : Nat) t v, Try.f3.params[j]? = some t → args[j]? = some v → Value.okWide Try.prog W .any base t v := hval0
  have hW' := hW
  obtain ⟨p, q, hA0, hV, rfl, hfz, hnd⟩ := hW
  have hA : DataW.TrodAll enc Try.prog W 0 (fun _ => true) true Try.f3.params.toList args.toList ds p := hA0
  rw [Try.params3] at hA hval
  obtain ⟨v0, vs0, d0, ds0, p0, q0, hargs, rfl, rfl, h0, r0⟩ := trodAll_cons hA
  obtain ⟨rfl, rfl, rfl⟩ := trodAll_nil r0
  obtain rfl : args = #[v0] := by cases args; simp_all
  obtain ⟨rfl, rfl⟩ := trodVars_none hV
  obtain ⟨a0, rfl, rfl, rfl, w0⟩ := open_string Try.underlying9 (hval 0 9 v0 rfl rfl) h0
  clear hA0 hval0
  refine (walk a0 w0 W).mono fun e W' ⟨he, bel⟩ => ?_
  subst he
  exact ⟨_, rfl, _, _, _, [], _, [], hW', trodAll_mk1 (shut_bool Try.underlying4 _), (trodAll_cons_mk (shut_string Try.underlying9 w0) trodAll_mk0), rfl, bel.frame _, fun h => by cases h⟩

theorem over : Rows.fnPartsRow.holds Try.pinned (OpenSpec.ofChange Rows.fnPartsSpec) :=
  OpenClaim.holds_of_wide 3 Try.f3 rfl rfl rfl rfl rfl rfl rfl ⟨rfl, rfl, rfl, rfl, rfl⟩ rfl rfl rfl rfl rfl (by as_aux_lemma => kernel_rfl) Try.func3 (by as_aux_lemma => kernel_rfl)
    (of_decide_eq_true (by as_aux_lemma => kernel_rfl)) (by unfold Func.isWrapper; first | (rw [if_pos (by decide +kernel)]; kernel_rfl) | (rw [if_neg (by decide +kernel)]; exact ⟨rfl, rfl⟩))
    (fun os started H enc _ => lifted os started H enc)

/-- THE STATEMENT. -/
theorem proved : Rows.FnPartsSaid :=
  over
#print axioms proved
end Go.Proofs.Ytdkcpjlcpfkehab.fnParts
