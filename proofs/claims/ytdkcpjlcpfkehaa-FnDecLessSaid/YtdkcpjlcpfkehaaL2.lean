/- FnExactDecInt: a decimal number less 1 is the number whose successor it is; of zeros alone it is nothing. Conditions: none. -/
import Derived.Test.YtdkcpjlcpfkehaaDig
import Derived.Test.YtdkcpjlcpfkehaaDec
import Derived.Test.YtdkcpjlcpfkehaaLaw
namespace Go.Proofs.Ytdkcpjlcpfkehaa.fnExactDecInt
open Go.ChangeShapes Go.WideShapes Go.ChangeAt Go.RowKit Plain
open Go.ChangeMaps (open_string shut_string)
set_option linter.unusedVariables false

theorem bare_of {l : List UInt8} (h : Num l) (hl : l.length ≤ 140737488351232) : (mk l).size ≤ 1 ∨ ∃ h1 : 1 < (mk l).size, ((mk l)[0]'(Nat.lt_trans Nat.zero_lt_one h1)).toNat ≠ 48 := by
  by_cases h1 : l.length = 1
  · left; rw [mk_size]; omega
  · right
    have hp := len_pos h.2.1
    have hs : 1 < (mk l).size := by rw [mk_size]; omega
    refine ⟨hs, fun e => h1 ?_⟩
    have g := get0 (s := mk l) (Nat.lt_trans Nat.zero_lt_one hs)
    rw [g, mk_data] at e
    apply h.2.2
    cases l with
    | nil => simp at hp
    | cons c r =>
      simp only [List.headD_cons] at e
      simp only [List.head?_cons, Option.some.injEq]
      exact UInt8.toNat_inj.1 (by simpa using e)

theorem dig_of_num {p : List UInt8} {d : UInt8} {k : Nat} {c : UInt8} (h : Num (p ++ d :: List.replicate k c)) : isDig d = true := by
  have := h.1
  simp only [allDig, List.all_append, List.all_cons, Bool.and_eq_true] at this
  exact this.2.1

set_option maxHeartbeats 1000000 in
theorem walk_zero (w : World) : Calls Try.prog 4 #[.string (mk [48])] w fun e w' => e = .returned (.bool true) ∧ Below w.heap.size w w' := by
  have h1 : (mk [48]).size = 1 := mk_size _
  have hz : (mk [48]).size ≤ 140737488351232 := by omega
  have hs : ¬ 2147483647 < (mk [48]).size := by omega
  have ht : ((mk [48]).toList == [48]) = true := by rw [mk_toList]; rfl
  have HN : Hid (Num (mk [48]).data.toList) := ⟨by decide, by simp [mk_data], by simp [mk_data]⟩
  clear h1
  go_enter Try.func4, Try.ntmps4
  go_wp2_with fail
  refine (sDigits_yes _ _ hz HN.out).mono ?_
  rintro e w' ⟨rfl, rfl⟩
  go_wp2_with fail
  refine (iDecInt_zero _ 1 _ hz rfl).mono ?_
  rintro e w' ⟨rfl, hb⟩
  go_wp2_with fail
  go_ret
  exact ⟨rfl, hb⟩

set_option maxHeartbeats 1000000 in
theorem walk_num (l : List UInt8) (hl : l.length ≤ 2147483647) (hn : Num l) (h0 : l ≠ [48]) (w : World) :
    Calls Try.prog 4 #[.string (mk l)] w fun e w' => e = .returned (.bool true) ∧ Below w.heap.size w w' := by
  have hz : (mk l).size ≤ 140737488351232 := by rw [mk_size]; omega
  have hs : ¬ 2147483647 < (mk l).size := by rw [mk_size]; omega
  have ht : ((mk l).toList == [48]) = false := by rw [mk_toList]; simpa using h0
  have HN := Lib.hid hn
  have HB := Lib.hid (bare_of hn (by omega))
  rcases tail_form 48 l with ⟨n, hE⟩ | ⟨p, d, k, hd, hE⟩
  · exfalso
    subst hE
    cases n with
    | zero => exact hn.2.1 rfl
    | succ n =>
      have := hn.2.2 (by simp [List.replicate_succ])
      simp at this
      subst this
      exact h0 rfl
  · have hdig := (isDig_iff d).1 (dig_of_num (p := p) (k := k) (c := 48) (by rw [← hE]; exact hn))
    have hd48 : 48 < d.toNat := by
      have : d.toNat ≠ 48 := fun e => hd (UInt8.toNat_inj.1 (by simpa using e))
      omega
    have hlen : p.length + 1 + k ≤ 2147483647 := by rw [hE] at hl; simp at hl; omega
    have HE := Lib.hid hE
    by_cases hc : p = [] ∧ d = 49 ∧ 0 < k
    · obtain ⟨hp, h49, hk⟩ := hc
      have HO : Hid (decOut p d k = List.replicate k 57) := by show _ = _; rw [hp, h49]; exact decOut_strip k hk
      have HM : Hid (49 :: List.replicate k 48 = l) := by show _ = _; rw [hE, hp, h49]; rfl
      clear hn hdig h0 hd hE hp h49 hl hk
      go_enter Try.func4, Try.ntmps4
      go_wp2_with fail
      refine (sDigits_yes _ _ hz HN.out).mono ?_
      rintro e w' ⟨rfl, rfl⟩
      go_wp2_with fail
      refine (iDecInt_some _ p d k _ hz HE.out hd48).mono ?_
      rintro e w' ⟨rfl, hb⟩
      rw [HO.out]
      go_wp2_with fail
      refine (sMore_all _ k _ (by rw [mk_size]; simp; omega) rfl).mono ?_
      rintro e w' ⟨rfl, hb2⟩
      rw [HM.out]
      go_wp2_with fail
      refine (sBare_id _ _ hz HB.out).mono ?_
      rintro e w' ⟨rfl, rfl⟩
      go_wp2_with fail
      go_ret
      exact ⟨ret_bool (by simp), hb.trans (hb2.mono hb.size)⟩
    · have HO : Hid (decOut p d k = p ++ (d - 1) :: List.replicate k 57) := decOut_keep hc
      have hd57 := toNat_pred_lt hd48 hdig.2
      have HM : Hid (p ++ (d - 1 + 1) :: List.replicate k 48 = l) := by show _ = _; rw [pred_succ, ← hE]
      clear hn hdig h0 hd hc hE hl
      go_enter Try.func4, Try.ntmps4
      go_wp2_with fail
      refine (sDigits_yes _ _ hz HN.out).mono ?_
      rintro e w' ⟨rfl, rfl⟩
      go_wp2_with fail
      refine (iDecInt_some _ p d k _ hz HE.out hd48).mono ?_
      rintro e w' ⟨rfl, hb⟩
      rw [HO.out]
      go_wp2_with fail
      refine (sMore_some _ p (d - 1) k _ (by rw [mk_size]; simp; omega) rfl hd57).mono ?_
      rintro e w' ⟨rfl, hb2⟩
      rw [HM.out]
      go_wp2_with fail
      refine (sBare_id _ _ hz HB.out).mono ?_
      rintro e w' ⟨rfl, rfl⟩
      go_wp2_with fail
      go_ret
      exact ⟨ret_bool (by simp), hb.trans (hb2.mono hb.size)⟩

set_option maxHeartbeats 1000000 in
theorem walk (a0 : ByteArray) (w0 : a0.size ≤ maxLen) (w : World) :
    Calls Try.prog 4 #[.string a0] w fun e w' => e = .returned (.bool true) ∧ Below w.heap.size w w' := by
  unfold maxLen at w0
  by_cases h1 : 2147483647 < a0.size
  · go_enter Try.func4, Try.ntmps4
    go_wp2
    go_ret
    exact ⟨rfl, Below.refl _ _⟩
  · by_cases n0 : Num a0.data.toList
    · by_cases hz : a0.data.toList = [48]
      · rw [mk_eq hz]
        exact walk_zero w
      · have := size_len a0
        exact walk_num a0.data.toList (by omega) n0 hz w
    · go_enter Try.func4, Try.ntmps4
      go_wp2_with fail
      refine (sDigits_no _ _ (by omega) n0).mono ?_
      rintro e w' ⟨rfl, rfl⟩
      go_wp2_with fail
      refine (iDecInt_some _ [] 49 1 _ (by decide) rfl (by decide)).mono ?_
      rintro e w' ⟨rfl, hb⟩
      go_wp2_with fail
      go_ret
      exact ⟨ret_bool (by rw [mk_toList]; decide), hb⟩

set_option maxRecDepth 100000 in
theorem lifted (os : Os) (started : os.Started) (H : Type) (enc : TypeId × Value → H) :
    ReturnsInHanded {} Try.checked os 4 .any (Rows.fnExactDecIntSpec.pre6 enc Try.prog Try.f4 Rows.fnExactDecIntRow.domain false) (Rows.fnExactDecIntSpec.post enc Try.prog Try.f4 false true false false) := by
  refine returnsInHanded_of_change (C := Try.checked) own started (by kernel_rfl) Try.func4
    (ChangeSpec.witness6 (enc := enc) (C := Try.checked) false ⟨#[], #[.string ByteArray.empty], []⟩ 8 (by kernel_rfl) (by kernel_rfl) (by kernel_rfl) (by kernel_rfl)) ?_
  intro W base args ds gs before hval0 hW hcnd _
  have hval : ∀ (j : Nat) t v, Try.f4.params[j]? = some t → args[j]? = some v → Value.okWide Try.prog W .any base t v := hval0
  have hW' := hW
  obtain ⟨p, q, hA0, hV, rfl, hfz, hnd⟩ := hW
  have hA : DataW.TrodAll enc Try.prog W 0 (fun _ => true) true Try.f4.params.toList args.toList ds p := hA0
  rw [Try.params4] at hA hval
  obtain ⟨v0, vs0, d0, ds0, p0, q0, hargs, rfl, rfl, h0, r0⟩ := trodAll_cons hA
  obtain ⟨rfl, rfl, rfl⟩ := trodAll_nil r0
  obtain rfl : args = #[v0] := by cases args; simp_all
  obtain ⟨rfl, rfl⟩ := trodVars_none hV
  obtain ⟨a0, rfl, rfl, rfl, w0⟩ := open_string Try.underlying9 (hval 0 9 v0 rfl rfl) h0
  clear hA0 hval0
  refine (walk a0 w0 W).mono fun e W' ⟨he, bel⟩ => ?_
  subst he
  exact ⟨_, rfl, _, _, _, [], _, [], hW', trodAll_mk1 (shut_bool Try.underlying4 _), (trodAll_cons_mk (shut_string Try.underlying9 w0) trodAll_mk0), rfl, bel.frame _, fun h => by cases h⟩

theorem over : Rows.fnExactDecIntRow.holds Try.pinned (OpenSpec.ofChange Rows.fnExactDecIntSpec) :=
  OpenClaim.holds_of_wide 4 Try.f4 rfl rfl rfl rfl rfl rfl rfl ⟨rfl, rfl, rfl, rfl, rfl⟩ rfl rfl rfl rfl rfl (by as_aux_lemma => kernel_rfl) Try.func4 (by as_aux_lemma => kernel_rfl)
    (of_decide_eq_true (by as_aux_lemma => kernel_rfl)) (by unfold Func.isWrapper; first | (rw [if_pos (by decide +kernel)]; kernel_rfl) | (rw [if_neg (by decide +kernel)]; exact ⟨rfl, rfl⟩))
    (fun os started H enc _ => lifted os started H enc)

/-- THE STATEMENT. -/
theorem proved : Rows.FnExactDecIntSaid :=
  over
#print axioms proved
end Go.Proofs.Ytdkcpjlcpfkehaa.fnExactDecInt
