/- FnParseAgain: a valid version that is taken apart and written again is equal to it, and taken apart alike. Conditions: none. -/
import Derived.Test.YtdkcpjlcpfkehacSText
import Derived.Test.YtdkcpjlcpfkehacCmpV
import Derived.Test.YtdkcpjlcpfkehacLaw
import Derived.Lib.QuietBelow
namespace Go.Proofs.Ytdkcpjlcpfkehac.fnParseAgain
open Go.ChangeShapes Go.WideShapes Go.ChangeAt Go.RowKit Plain
open Go.ChangeMaps (open_string shut_string)
open Go.Sort (grow)
set_option linter.unusedVariables false

theorem valid121 : parse [49, 46, 50, 49] ≠ zeroVer := fun e => by
  have := congrArg Ver.major e
  have h : (parse [49, 46, 50, 49]).major = [49] := by decide +kernel
  rw [h] at this
  simp [zeroVer] at this

set_option maxRecDepth 100000 in
set_option maxHeartbeats 2000000 in
theorem walk_not (x : List UInt8) (w : World) (hx : ¬ 2147483647 < x.length) (hp : parse x = zeroVer) :
    Calls Try.prog 7 #[.string (mk x)] w fun e w' => e = .returned (.bool true) ∧ Below w.heap.size w w' := by
  have HP := Lib.hid (fun w => iParse x w (by omega))
  have HV := Lib.hid (fun w => iIsValid x w (by omega))
  have HW := Lib.hid (fun w => iCompare x [49, 46, 50, 49] w (by omega) (by simp))
  rw [hp] at HP
  rw [validB_false.2 hp] at HV
  rw [cmpX_not_valid hp valid121] at HW
  unfold verV zeroVer at HP
  simp only [] at HP
  clear hp
  go_enter Try.func7, Try.ntmps7
  go_wp2_with fail
  refine (HP.out _).mono ?_
  rintro e w1 ⟨rfl, hb1⟩
  have hz1 := hb1.alloc hb1.size (.cells #[.string (mk []), .string (mk []), .string (mk []), .string (mk []), .string (mk [])] 29)
  go_wp2_with fail
  refine (HV.out _).mono ?_
  rintro e w2 ⟨rfl, hb2⟩
  go_wp2_with fail
  refine (HW.out _).mono ?_
  rintro e w3 ⟨rfl, hb3⟩
  go_wp2_with fail
  go_ret
  exact ⟨rfl, (hz1.trans (hb2.mono (by have := hb1.size; simp; omega))).trans (hb3.mono (by have := hb1.size; have := hb2.size; simp at this; omega))⟩

theorem ver_cells (w : World) (m i p k q : List UInt8) :
    (w.alloc (.cells #[.string (mk m), .string (mk i), .string (mk p), .string (mk k), .string (mk q)] 29)).cell? ⟨w.heap.size, 0, none⟩ = some (.string (mk m)) ∧
    (w.alloc (.cells #[.string (mk m), .string (mk i), .string (mk p), .string (mk k), .string (mk q)] 29)).cell? ⟨w.heap.size, 1, none⟩ = some (.string (mk i)) ∧
    (w.alloc (.cells #[.string (mk m), .string (mk i), .string (mk p), .string (mk k), .string (mk q)] 29)).cell? ⟨w.heap.size, 2, none⟩ = some (.string (mk p)) ∧
    (w.alloc (.cells #[.string (mk m), .string (mk i), .string (mk p), .string (mk k), .string (mk q)] 29)).cell? ⟨w.heap.size, 3, none⟩ = some (.string (mk k)) ∧
    (w.alloc (.cells #[.string (mk m), .string (mk i), .string (mk p), .string (mk k), .string (mk q)] 29)).cell? ⟨w.heap.size, 4, none⟩ = some (.string (mk q)) :=
  ⟨World.cell?_alloc_new _ _ _ _, World.cell?_alloc_new _ _ _ _, World.cell?_alloc_new _ _ _ _, World.cell?_alloc_new _ _ _ _, World.cell?_alloc_new _ _ _ _⟩

set_option maxRecDepth 100000 in
set_option maxHeartbeats 4000000 in
theorem walk_yes (x m i p k q t : List UInt8) (w : World) (hx : ¬ 2147483647 < x.length) (hm : m ≠ []) (hv : parse x = ⟨m, i, p, k, q⟩) (ht : t.length ≤ 140737488351232) (hv' : parse t = ⟨m, i, p, k, q⟩)
    (HT : Hid (∀ w, Calls Try.prog 15 #[.agg #[.string (mk m), .string (mk i), .string (mk p), .string (mk k), .string (mk q)]] w fun e w' => e = .returned (.string (mk t)) ∧ Below w.heap.size w w')) :
    Calls Try.prog 7 #[.string (mk x)] w fun e w' => e = .returned (.bool true) ∧ Below w.heap.size w w' := by
  have HP := Lib.hid (fun w => iParse x w (by omega))
  have HQ := Lib.hid (fun w => iParse t w ht)
  have HC := Lib.hid (fun w => iCompare t x w ht (by omega))
  rw [hv] at HP
  rw [hv'] at HQ
  rw [(cmpX_zero t x).2 (hv'.trans hv.symm)] at HC
  unfold verV at HP HQ
  simp only [] at HP HQ
  have hb : (m == []) = false := by simpa using hm
  have hb' : m.isEmpty = false := by cases m with | nil => exact absurd rfl hm | cons => rfl
  have KC := Lib.hid (fun w => ver_cells w m i p k q)
  clear hv hv' hm
  go_enter Try.func7, Try.ntmps7
  go_wp2_with fail
  refine (HP.out _).mono ?_
  rintro e w1 ⟨rfl, hb1⟩
  have hz1 := hb1.alloc hb1.size (.cells #[.string (mk m), .string (mk i), .string (mk p), .string (mk k), .string (mk q)] 29)
  obtain ⟨c0, c1, c2, c3, c4⟩ := KC.out w1
  have k0 := cell_regrown c0
  have k1 := cell_regrown c1
  have k2 := cell_regrown c2
  have k3 := cell_regrown c3
  have k4 := cell_regrown c4
  have GT := Lib.hid (fun e os => Calls.regrown_of (HT.out (grow (redrawn (w1.alloc (.cells #[.string (mk m), .string (mk i), .string (mk p), .string (mk k), .string (mk q)] 29)) e) os)))
  have GQ := Lib.hid (fun e os => Calls.regrown_of (HQ.out (grow (redrawn (w1.alloc (.cells #[.string (mk m), .string (mk i), .string (mk p), .string (mk k), .string (mk q)] 29)) e) os)))
  have GC := Lib.hid (fun e os => Calls.regrown_of (HC.out (grow (redrawn (w1.alloc (.cells #[.string (mk m), .string (mk i), .string (mk p), .string (mk k), .string (mk q)] 29)) e) os)))
  clear c0 c1 c2 c3 c4 HT HP HQ HC KC
  go_wp2
  refine wp_region_quiet_below (by kernel_rfl) (by kernel_rfl) ?_
  repeat (quiet_step (first | (go_at_call 15; exact GT.out _ _) | (go_at_call 12; exact GQ.out _ _) | (go_at_call 9; exact GC.out _ _)))
  refine wpQuiet_nil ?_
  intro _ hw'
  obtain ⟨⟨dq, osq⟩, hw''⟩ := hw'
  subst hw''
  go_wp2
  go_ret
  exact ⟨ret_bool (by simp), hz1.trans ((below_regrown _ dq osq).mono hz1.size)⟩

theorem walkN (x : List UInt8) (w : World) (hx : x.length ≤ 9223372036854775807) :
    Calls Try.prog 7 #[.string (mk x)] w fun e w' => e = .returned (.bool true) ∧ Below w.heap.size w w' := by
  by_cases h1 : 2147483647 < x.length
  · go_enter Try.func7, Try.ntmps7
    go_wp2
    go_ret
    exact ⟨rfl, by go_grown⟩
  rcases parse_cases x with hp | hp
  · exact walk_not x w h1 hp
  have hm := form_ne hp
  have hi := (form_parts hp).2.1.2.1
  have hl := parse_len x
  have ht := parse_form (form_text hp)
  obtain ⟨⟨m, i, p, k, q⟩, hv⟩ : ∃ v, parse x = v := ⟨_, rfl⟩
  rw [hv] at hm hi hl ht
  simp only [] at hm hi hl
  have hlen : (textV ⟨m, i, p, k, q⟩).length ≤ 140737488351232 := by
    have e1 : (if i = [] then ([] : List UInt8) else 46 :: i).length ≤ i.length + 1 := by split <;> simp
    have e2 : (if p = [] then ([] : List UInt8) else 46 :: p).length ≤ p.length + 1 := by split <;> simp
    simp only [textV, List.length_append]
    omega
  by_cases hpp : p = []
  · subst hpp
    exact walk_yes x m i [] k q _ w h1 hm hv hlen ht (Lib.hid fun w => sText_nopatch m i k q w hi (by omega) (by omega) (by omega) (by omega))
  · exact walk_yes x m i p k q _ w h1 hm hv hlen ht (Lib.hid fun w => sText_patch m i p k q w hi hpp (by omega) (by omega) (by omega) (by omega) (by omega))

theorem walk (a0 : ByteArray) (w0 : a0.size ≤ maxLen) (w : World) :
    Calls Try.prog 7 #[.string a0] w fun e w' => e = .returned (.bool true) ∧ Below w.heap.size w w' := by
  unfold maxLen at w0
  have := size_len a0
  exact walkN a0.data.toList w (by omega)

set_option maxRecDepth 100000 in
theorem lifted (os : Os) (started : os.Started) (H : Type) (enc : TypeId × Value → H) :
    ReturnsInHanded {} Try.checked os 7 .any (Rows.fnParseAgainSpec.pre6 enc Try.prog Try.f7 Rows.fnParseAgainRow.domain false) (Rows.fnParseAgainSpec.post enc Try.prog Try.f7 false true false false) := by
  refine returnsInHanded_of_change (C := Try.checked) own started (by kernel_rfl) Try.func7
    (ChangeSpec.witness6 (enc := enc) (C := Try.checked) false ⟨#[], #[.string ByteArray.empty], []⟩ 8 (by kernel_rfl) (by kernel_rfl) (by kernel_rfl) (by kernel_rfl)) ?_
  intro W base args ds gs before hval0 hW hcnd _
  have hval : ∀ (j : Nat) t v, Try.f7.params[j]? = some t → args[j]? = some v → Value.okWide Try.prog W .any base t v := hval0
  have hW' := hW
  obtain ⟨p, q, hA0, hV, rfl, hfz, hnd⟩ := hW
  have hA : DataW.TrodAll enc Try.prog W 0 (fun _ => true) true Try.f7.params.toList args.toList ds p := hA0
  rw [Try.params7] at hA hval
  obtain ⟨v0, vs0, d0, ds0, p0, q0, hargs, rfl, rfl, h0, r0⟩ := trodAll_cons hA
  obtain ⟨rfl, rfl, rfl⟩ := trodAll_nil r0
  obtain rfl : args = #[v0] := by cases args; simp_all
  obtain ⟨rfl, rfl⟩ := trodVars_none hV
  obtain ⟨a0, rfl, rfl, rfl, w0⟩ := open_string Try.underlying9 (hval 0 9 v0 rfl rfl) h0
  clear hA0 hval0
  refine (walk a0 w0 W).mono fun e W' ⟨he, bel⟩ => ?_
  subst he
  exact ⟨_, rfl, _, _, _, [], _, [], hW', trodAll_mk1 (shut_bool Try.underlying4 _), (trodAll_cons_mk (shut_string Try.underlying9 w0) trodAll_mk0), rfl, bel.frame _, fun h => by cases h⟩

theorem over : Rows.fnParseAgainRow.holds Try.pinned (OpenSpec.ofChange Rows.fnParseAgainSpec) :=
  OpenClaim.holds_of_wide 7 Try.f7 rfl rfl rfl rfl rfl rfl rfl ⟨rfl, rfl, rfl, rfl, rfl⟩ rfl rfl rfl rfl rfl (by as_aux_lemma => kernel_rfl) Try.func7 (by as_aux_lemma => kernel_rfl)
    (of_decide_eq_true (by as_aux_lemma => kernel_rfl)) (by unfold Func.isWrapper; first | (rw [if_pos (by decide +kernel)]; kernel_rfl) | (rw [if_neg (by decide +kernel)]; exact ⟨rfl, rfl⟩))
    (fun os started H enc _ => lifted os started H enc)

/-- THE STATEMENT. -/
theorem proved : Rows.FnParseAgainSaid :=
  over
#print axioms proved
end Go.Proofs.Ytdkcpjlcpfkehac.fnParseAgain
