/- FnDecLess: a decimal number less 1 is less, and there is no number between. Conditions: none. -/
import Derived.Test.YtdkcpjlcpfkehaaL2
import Derived.Test.YtdkcpjlcpfkehaaICmp
namespace Go.Proofs.Ytdkcpjlcpfkehaa.fnDecLess
open Go.ChangeShapes Go.WideShapes Go.ChangeAt Go.RowKit Plain
open Go.ChangeMaps (open_string shut_string)
set_option linter.unusedVariables false

theorem bare_mk {l : List UInt8} (h : l.length ≤ 1 ∨ l.headD 0 ≠ 48) : (mk l).size ≤ 1 ∨ ∃ h1 : 1 < (mk l).size, ((mk l)[0]'(Nat.lt_trans Nat.zero_lt_one h1)).toNat ≠ 48 := by
  by_cases h1 : l.length ≤ 1
  · left; rw [mk_size]; exact h1
  · right
    have hs : 1 < (mk l).size := by rw [mk_size]; omega
    refine ⟨hs, fun e => ?_⟩
    have g := get0 (s := mk l) (Nat.lt_trans Nat.zero_lt_one hs)
    rw [g, mk_data] at e
    rcases h with h | h
    · exact h1 h
    · exact h (UInt8.toNat_inj.1 (by simpa using e))

theorem bare_decOut {p : List UInt8} {d : UInt8} {k : Nat} (hn : Num (p ++ d :: List.replicate k 48)) (hd : 48 < d.toNat) : (decOut p d k).length ≤ 1 ∨ (decOut p d k).headD 0 ≠ 48 := by
  by_cases hc : p = [] ∧ d = 49 ∧ 0 < k
  · obtain ⟨rfl, rfl, hk⟩ := hc
    rw [decOut_strip k hk]
    right
    cases k with
    | zero => omega
    | succ k => simp [List.replicate_succ]
  · rw [decOut_keep hc]
    cases p with
    | nil =>
      by_cases h49 : d = 49
      · have : k = 0 := by
          have : ¬ 0 < k := fun h => hc ⟨rfl, h49, h⟩
          omega
        subst this
        left; simp
      · right
        intro e
        simp only [List.nil_append, List.headD_cons] at e
        have := congrArg UInt8.toNat e
        rw [toNat_pred (by omega)] at this
        have h48 : (48 : UInt8).toNat = 48 := rfl
        rw [h48] at this
        exact h49 (UInt8.toNat_inj.1 (by simp; omega))
    | cons c r =>
      right
      intro e
      simp only [List.cons_append, List.headD_cons] at e
      have := hn.2.2 (by simp [e])
      simp at this

theorem one_zero : cmpInt [49] [48] = 1 := by decide

set_option maxHeartbeats 1000000 in
theorem walk_zero (s : ByteArray) (w : World) (hs : s.size ≤ 2147483647) (h : ¬ Num s.data.toList ∨ s = mk [48]) :
    Calls Try.prog 5 #[.string s] w fun e w' => e = .returned (.bool true) ∧ Below w.heap.size w w' := by
  have hz : (mk [48]).size ≤ 140737488351232 := by rw [mk_size]; simp
  have h1 : ¬ 2147483647 < s.size := by omega
  rcases h with h | h
  · have HN := Lib.hid h
    clear h
    go_enter Try.func5, Try.ntmps5
    go_wp2_with fail
    refine (sDigits_no _ _ (by omega) HN.out).mono ?_
    rintro e w' ⟨rfl, rfl⟩
    go_wp2_with fail
    refine (iDecInt_zero (mk [48]) 1 _ hz rfl).mono ?_
    rintro e w' ⟨rfl, hb⟩
    go_wp2_with fail
    refine (iCmpInt (mk [49]) (mk [48]) _).mono ?_
    rintro e w2 ⟨rfl, rfl⟩
    rw [mk_data, mk_data, one_zero]
    go_wp2_with fail
    go_ret
    exact ⟨rfl, hb⟩
  · have HN : Hid (Num (mk [48]).data.toList) := ⟨by decide, by simp [mk_data], by simp [mk_data]⟩
    have ht : ((mk [48]).toList == [48]) = true := by rw [mk_toList]; rfl
    subst h
    go_enter Try.func5, Try.ntmps5
    go_wp2_with fail
    refine (sDigits_yes _ _ hz HN.out).mono ?_
    rintro e w' ⟨rfl, rfl⟩
    go_wp2_with fail
    refine (iDecInt_zero (mk [48]) 1 _ hz rfl).mono ?_
    rintro e w' ⟨rfl, hb⟩
    go_wp2_with fail
    refine (iCmpInt (mk [49]) (mk [48]) _).mono ?_
    rintro e w2 ⟨rfl, rfl⟩
    rw [mk_data, mk_data, one_zero]
    go_wp2_with fail
    go_ret
    exact ⟨rfl, hb⟩

set_option maxHeartbeats 1000000 in
theorem walk_num (l : List UInt8) (hl : l.length ≤ 2147483647) (hn : Num l) (h0 : l ≠ [48]) (w : World) :
    Calls Try.prog 5 #[.string (mk l)] w fun e w' => e = .returned (.bool true) ∧ Below w.heap.size w w' := by
  have hz : (mk l).size ≤ 140737488351232 := by rw [mk_size]; omega
  have hs : ¬ 2147483647 < (mk l).size := by rw [mk_size]; omega
  have ht : ((mk l).toList == [48]) = false := by rw [mk_toList]; simpa using h0
  have HN := Lib.hid hn
  rcases tail_form 48 l with ⟨n, hE⟩ | ⟨p, d, k, hd, hE⟩
  · exfalso
    subst hE
    cases n with
    | zero => exact hn.2.1 rfl
    | succ n =>
      have := hn.2.2 (by simp [List.replicate_succ])
      simp at this
      subst this
      exact h0 rfl
  · have hdig := (isDig_iff d).1 (fnExactDecInt.dig_of_num (p := p) (k := k) (c := 48) (by rw [← hE]; exact hn))
    have hd48 : 48 < d.toNat := by
      have : d.toNat ≠ 48 := fun e => hd (UInt8.toNat_inj.1 (by simpa using e))
      omega
    have hlen : p.length + 1 + k ≤ 2147483647 := by rw [hE] at hl; simp at hl; omega
    have HE := Lib.hid hE
    have HB := Lib.hid (bare_mk (bare_decOut (p := p) (d := d) (k := k) (by rw [← hE]; exact hn) hd48))
    have HL : Hid (cmpInt (decOut p d k) l = -1) := by show _ = _; rw [hE]; exact cmpInt_decOut p d k hd48
    have HZ : Hid (cmpInt l l = 0) := isCmp_cmpInt.self l
    have hlo : (mk (decOut p d k)).size ≤ 140737488351232 := by
      rw [mk_size]; unfold decOut; split <;> simp <;> omega
    have HM : Hid ((∃ n, n ≤ 2147483647 ∧ decOut p d k = List.replicate n 57 ∧ 49 :: List.replicate n 48 = l) ∨ (∃ c : UInt8, c.toNat < 57 ∧ decOut p d k = p ++ c :: List.replicate k 57 ∧ p ++ (c + 1) :: List.replicate k 48 = l)) := by
      by_cases hc : p = [] ∧ d = 49 ∧ 0 < k
      · obtain ⟨hp, h49, hk⟩ := hc
        left
        refine ⟨k, by omega, ?_, ?_⟩
        · rw [hp, h49]; exact decOut_strip k hk
        · rw [hE, hp, h49]; rfl
      · right
        refine ⟨d - 1, toNat_pred_lt hd48 hdig.2, decOut_keep hc, ?_⟩
        rw [pred_succ, ← hE]
    clear hn hdig h0 hd hE hl
    go_enter Try.func5, Try.ntmps5
    go_wp2_with fail
    refine (sDigits_yes _ _ hz HN.out).mono ?_
    rintro e w' ⟨rfl, rfl⟩
    go_wp2_with fail
    refine (iDecInt_some _ p d k _ hz HE.out hd48).mono ?_
    rintro e w1 ⟨rfl, hb⟩
    go_wp2_with fail
    refine (sBare_id _ _ hlo HB.out).mono ?_
    rintro e w' ⟨rfl, rfl⟩
    go_wp2_with fail
    refine (iCmpInt _ _ _).mono ?_
    rintro e w' ⟨rfl, rfl⟩
    rw [mk_data, mk_data, HL.out]
    rcases HM.out with ⟨n, hn, e1, e2⟩ | ⟨c, hc, e1, e2⟩
    · have E1 := Lib.hid e1
      have E2 := Lib.hid e2
      clear e1 e2 HM HE
      go_wp2_with fail
      refine (sMore_all _ n _ hlo (by rw [mk_data, E1.out])).mono ?_
      rintro e w2 ⟨rfl, hb2⟩
      rw [E2.out]
      go_wp2_with fail
      refine (iCmpInt _ _ _).mono ?_
      rintro e w' ⟨rfl, rfl⟩
      rw [mk_data, HZ.out]
      go_wp2_with fail
      go_ret
      exact ⟨rfl, hb.trans (hb2.mono hb.size)⟩
    · have E1 := Lib.hid e1
      have E2 := Lib.hid e2
      clear e1 e2 HM HE
      go_wp2_with fail
      refine (sMore_some _ p c k _ hlo (by rw [mk_data, E1.out]) hc).mono ?_
      rintro e w2 ⟨rfl, hb2⟩
      rw [E2.out]
      go_wp2_with fail
      refine (iCmpInt _ _ _).mono ?_
      rintro e w' ⟨rfl, rfl⟩
      rw [mk_data, HZ.out]
      go_wp2_with fail
      go_ret
      exact ⟨rfl, hb.trans (hb2.mono hb.size)⟩

set_option maxHeartbeats 1000000 in
theorem walk (a0 : ByteArray) (w0 : a0.size ≤ maxLen) (w : World) :
    Calls Try.prog 5 #[.string a0] w fun e w' => e = .returned (.bool true) ∧ Below w.heap.size w w' := by
  unfold maxLen at w0
  by_cases h1 : 2147483647 < a0.size
  · go_enter Try.func5, Try.ntmps5
    go_wp2
    go_ret
    exact ⟨rfl, Below.refl _ _⟩
  · by_cases n0 : Num a0.data.toList
    · by_cases hz : a0.data.toList = [48]
      · exact walk_zero a0 w (by omega) (Or.inr (mk_eq hz))
      · have := size_len a0
        exact walk_num a0.data.toList (by omega) n0 hz w
    · exact walk_zero a0 w (by omega) (Or.inl n0)

set_option maxRecDepth 100000 in
theorem lifted (os : Os) (started : os.Started) (H : Type) (enc : TypeId × Value → H) :
    ReturnsInHanded {} Try.checked os 5 .any (Rows.fnDecLessSpec.pre6 enc Try.prog Try.f5 Rows.fnDecLessRow.domain false) (Rows.fnDecLessSpec.post enc Try.prog Try.f5 false true false false) := by
  refine returnsInHanded_of_change (C := Try.checked) own started (by kernel_rfl) Try.func5
    (ChangeSpec.witness6 (enc := enc) (C := Try.checked) false ⟨#[], #[.string ByteArray.empty], []⟩ 8 (by kernel_rfl) (by kernel_rfl) (by kernel_rfl) (by kernel_rfl)) ?_
  intro W base args ds gs before hval0 hW hcnd _
  have hval : ∀ (j : Nat) t v, Try.f5.params[j]? = some t → args[j]? = some v → Value.okWide Try.prog W .any base t v := hval0
  have hW' := hW
  obtain ⟨p, q, hA0, hV, rfl, hfz, hnd⟩ := hW
  have hA : DataW.TrodAll enc Try.prog W 0 (fun _ => true) true Try.f5.params.toList args.toList ds p := hA0
  rw [Try.params5] at hA hval
  obtain ⟨v0, vs0, d0, ds0, p0, q0, hargs, rfl, rfl, h0, r0⟩ := trodAll_cons hA
  obtain ⟨rfl, rfl, rfl⟩ := trodAll_nil r0
  obtain rfl : args = #[v0] := by cases args; simp_all
  obtain ⟨rfl, rfl⟩ := trodVars_none hV
  obtain ⟨a0, rfl, rfl, rfl, w0⟩ := open_string Try.underlying9 (hval 0 9 v0 rfl rfl) h0
  clear hA0 hval0
  refine (walk a0 w0 W).mono fun e W' ⟨he, bel⟩ => ?_
  subst he
  exact ⟨_, rfl, _, _, _, [], _, [], hW', trodAll_mk1 (shut_bool Try.underlying4 _), (trodAll_cons_mk (shut_string Try.underlying9 w0) trodAll_mk0), rfl, bel.frame _, fun h => by cases h⟩

theorem over : Rows.fnDecLessRow.holds Try.pinned (OpenSpec.ofChange Rows.fnDecLessSpec) :=
  OpenClaim.holds_of_wide 5 Try.f5 rfl rfl rfl rfl rfl rfl rfl ⟨rfl, rfl, rfl, rfl, rfl⟩ rfl rfl rfl rfl rfl (by as_aux_lemma => kernel_rfl) Try.func5 (by as_aux_lemma => kernel_rfl)
    (of_decide_eq_true (by as_aux_lemma => kernel_rfl)) (by unfold Func.isWrapper; first | (rw [if_pos (by decide +kernel)]; kernel_rfl) | (rw [if_neg (by decide +kernel)]; exact ⟨rfl, rfl⟩))
    (fun os started H enc _ => lifted os started H enc)

/-- THE STATEMENT. -/
theorem proved : Rows.FnDecLessSaid :=
  over
#print axioms proved
end Go.Proofs.Ytdkcpjlcpfkehaa.fnDecLess
