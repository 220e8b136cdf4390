/- FnLangFirst: since 1.21 the version of the language is not greater than any of its versions, and less than that of the next minor number. Conditions: none. -/
import Derived.Test.YtdkcpjlcpfkehacLangLaw
import Derived.Test.YtdkcpjlcpfkehacTwoRel
import Derived.Test.YtdkcpjlcpfkehacCmpV
import Derived.Deep.RegionWith
namespace Go.Proofs.Ytdkcpjlcpfkehac.fnLangFirst
open Go.ChangeShapes Go.WideShapes Go.ChangeAt Go.RowKit Plain
open Go.ChangeMaps (open_string shut_string)
open Go.Sort (grow)
set_option linter.unusedVariables false

theorem next_cells (w : World) (a b : Nat) :
    (w.alloc (.cells #[.int .u32 a, .int .u32 ((b : Int) + 1), .int .u8 0, .int .u32 0] 26)).cell? ⟨w.heap.size, 0, none⟩ = some (.int .u32 a) ∧
    (w.alloc (.cells #[.int .u32 a, .int .u32 ((b : Int) + 1), .int .u8 0, .int .u32 0] 26)).cell? ⟨w.heap.size, 1, none⟩ = some (.int .u32 ((b : Int) + 1)) ∧
    (w.alloc (.cells #[.int .u32 a, .int .u32 ((b : Int) + 1), .int .u8 0, .int .u32 0] 26)).cell? ⟨w.heap.size, 2, none⟩ = some (.int .u8 0) ∧
    (w.alloc (.cells #[.int .u32 a, .int .u32 ((b : Int) + 1), .int .u8 0, .int .u32 0] 26)).cell? ⟨w.heap.size, 3, none⟩ = some (.int .u32 0) :=
  ⟨World.cell?_alloc_new _ _ _ _, World.cell?_alloc_new _ _ _ _, World.cell?_alloc_new _ _ _ _, World.cell?_alloc_new _ _ _ _⟩

theorem next_text (a b : Nat) (w : World) (ha : a < 4294967296) (hb : b + 1 < 4294967296) :
    Calls Try.prog 11 #[.agg #[.int .u32 a, .int .u32 ((b : Int) + 1), .int .u8 0, .int .u32 0]] w fun e w' => e = .returned (.string (mk (textOf a (b + 1) 0 0))) ∧ Below w.heap.size w w' := by
  have h := sRText a (b + 1) 0 0 w ha hb (by omega) (by omega)
  rw [show ((b + 1 : Nat) : Int) = (b : Int) + 1 from by omega] at h
  exact h

theorem first_le {a b : Nat} (s n : Nat) (h : 21 ≤ b) : cmpX (langOf a b) (textOf a b s n) = ord 0 (s % 5) := by
  have e : langOf a b = textOf a b 0 0 := by unfold textOf; rw [if_pos rfl]
  rw [e]
  unfold cmpX
  rw [parse_textOf a b 0 0 (Or.inr h), parse_textOf a b s n (Or.inr h), cmpV_verOf]
  simp [orderOf, lexc, ord]

theorem next_more {a b : Nat} (s n : Nat) (h : 21 ≤ b) : cmpX (textOf a b s n) (textOf a (b + 1) 0 0) = -1 := by
  unfold cmpX
  rw [parse_textOf a b s n (Or.inr h), parse_textOf a (b + 1) 0 0 (Or.inr (by omega)), cmpV_verOf]
  simp [orderOf, lexc, ord]

set_option maxRecDepth 100000 in
set_option maxHeartbeats 4000000 in
theorem walk_new (a b s n : Nat) (w : World) (ha : a < 4294967296) (hb : b + 1 < 4294967296) (hs : s < 256) (hn : n < 4294967296) (h21 : 21 ≤ b) (c1 : Int) (q : Nat) (hq : s % 5 = q)
    (hc1 : ord 0 (s % 5) = c1) (hcase : (q = 0 ∧ c1 = 0) ∨ (0 < q ∧ c1 = -1)) :
    Calls Try.prog 8 #[.int .u32 a, .int .u32 b, .int .u8 s, .int .u32 n] w fun e w' => e = .returned (.bool true) ∧ Below w.heap.size w w' := by
  have hbb : b < 4294967296 := by omega
  have lt : (textOf a b s n).length ≤ 140737488351232 := by have := textOf_len (s := s) ha hbb hn; omega
  have lx : (textOf a (b + 1) 0 0).length ≤ 140737488351232 := by have := textOf_len (s := 0) ha hb (n := 0) (by omega); omega
  have lg : (langOf a b).length ≤ 140737488351232 := by have := langOf_len ha hbb; omega
  have N1 := Lib.hid (fun w => sRNew a b s n w)
  rw [decide_eq_true h21] at N1
  have KX := Lib.hid (fun w => rel_cells w a b s n)
  have KY := Lib.hid (fun w => next_cells w a b)
  have HT := Lib.hid (fun w => sRText a b s n w ha hbb hs hn)
  have HX := Lib.hid (fun w => next_text a b w ha hb)
  have HL := Lib.hid (fun w => iLang (textOf a b s n) w lt)
  rw [langX_text s n (by omega)] at HL
  have e1 := first_le (a := a) s n h21
  rw [hc1] at e1
  have e2 := next_more (a := a) s n h21
  have bm : ((b : Int) == 4294967295) = false := by rw [beq_eq_false_iff_ne]; omega
  have eq' : (s : Int) % 5 = (q : Int) := by omega
  have hq5 : q < 5 := by omega
  generalize langOf a b = g at *
  generalize textOf a b s n = t at *
  generalize textOf a (b + 1) 0 0 = x at *
  clear hc1 hq hs hn ha h21
  go_enter Try.func8, Try.ntmps8
  go_wp2_with fail
  refine (N1.out _).mono ?_
  rintro e w1 ⟨rfl, hb1⟩
  have hz : w.heap.size < w1.heap.size := by have := hb1.size; simp at this; omega
  have C0 := (bcell hb1).1
  obtain ⟨c0, c1', c2, c3⟩ := KX.out w
  have c0 := (World.cell?_alloc_lt w1 (.cells #[.int .u32 a, .int .u32 ((b : Int) + 1), .int .u8 0, .int .u32 0] 26) ⟨w.heap.size, 0, none⟩ hz).trans ((C0 w.heap.size 0 (by simp)).trans c0)
  have c1' := (World.cell?_alloc_lt w1 (.cells #[.int .u32 a, .int .u32 ((b : Int) + 1), .int .u8 0, .int .u32 0] 26) ⟨w.heap.size, 1, none⟩ hz).trans ((C0 w.heap.size 1 (by simp)).trans c1')
  have c2 := (World.cell?_alloc_lt w1 (.cells #[.int .u32 a, .int .u32 ((b : Int) + 1), .int .u8 0, .int .u32 0] 26) ⟨w.heap.size, 2, none⟩ hz).trans ((C0 w.heap.size 2 (by simp)).trans c2)
  have c3 := (World.cell?_alloc_lt w1 (.cells #[.int .u32 a, .int .u32 ((b : Int) + 1), .int .u8 0, .int .u32 0] 26) ⟨w.heap.size, 3, none⟩ hz).trans ((C0 w.heap.size 3 (by simp)).trans c3)
  obtain ⟨d0, d1, d2, d3⟩ := KY.out w1
  have k0 := cell_regrown c0
  have k1 := cell_regrown c1'
  have k2 := cell_regrown c2
  have k3 := cell_regrown c3
  have l0 := cell_regrown d0
  have l1 := cell_regrown d1
  have l2 := cell_regrown d2
  have l3 := cell_regrown d3
  have hb0 : Below w.heap.size w (w1.alloc (.cells #[.int .u32 a, .int .u32 ((b : Int) + 1), .int .u8 0, .int .u32 0] 26)) := (((Below.refl _ _).alloc (Nat.le_refl _) _).trans (hb1.mono (by simp))).alloc (by omega) _
  have GT := Lib.hid (fun e os => Calls.regrown_of (HT.out (grow (redrawn (w1.alloc (.cells #[.int .u32 a, .int .u32 ((b : Int) + 1), .int .u8 0, .int .u32 0] 26)) e) os)))
  have GX := Lib.hid (fun e os => Calls.regrown_of (HX.out (grow (redrawn (w1.alloc (.cells #[.int .u32 a, .int .u32 ((b : Int) + 1), .int .u8 0, .int .u32 0] 26)) e) os)))
  have GL := Lib.hid (fun e os => Calls.regrown_of (HL.out (grow (redrawn (w1.alloc (.cells #[.int .u32 a, .int .u32 ((b : Int) + 1), .int .u8 0, .int .u32 0] 26)) e) os)))
  have GC := Lib.hid (fun (p q : List UInt8) (hp : p.length ≤ 140737488351232) (hq : q.length ≤ 140737488351232) e os => Calls.regrown_of (iCompare p q (grow (redrawn (w1.alloc (.cells #[.int .u32 a, .int .u32 ((b : Int) + 1), .int .u8 0, .int .u32 0] 26)) e) os) hp hq))
  clear c0 c1' c2 c3 d0 d1 d2 d3 HT HX HL C0 hb1 KX KY
  have et : ((s : Int)).tmod 5 = (q : Int) := by rw [Int.tmod_eq_emod_of_nonneg (by omega)]; exact eq'
  have wm : IntKind.i64.wrap (-1) = -1 := IntWalk.i64_in _ ⟨by omega, by omega⟩
  have w0' : IntKind.i64.wrap 0 = 0 := IntWalk.i64_in _ ⟨by omega, by omega⟩
  rcases hcase with ⟨hq0, rfl⟩ | ⟨hq0, rfl⟩
  · have et0 : ((s : Int)).tmod 5 = 0 := by rw [et]; omega
    clear et eq' hq0 hq5
    go_wp2
    refine wp_region_quiet_below (by kernel_rfl) (by kernel_rfl) ?_
    repeat (quiet_step (first | (go_at_call 17; exact GL.out _ _) | (go_at_call_of 11 (Value.int IntKind.u8 0); exact GX.out _ _) | (go_at_call 11; exact GT.out _ _) | (go_at_call 9; exact GC.out _ _ (by assumption) (by assumption) _ _)))
    refine wpQuiet_nil ?_
    intro _ hw'
    obtain ⟨⟨dq, osq⟩, hw''⟩ := hw'
    subst hw''
    go_wp2
    go_ret
    exact ⟨ret_bool (by simp), hb0.trans ((below_regrown _ dq osq).mono hb0.size)⟩
  · have wq : IntKind.i64.wrap (q : Int) = (q : Int) := IntWalk.i64_in _ ⟨by omega, by omega⟩
    have HQ1 : Hid (¬ (q : Int) < 1) := by show ¬ _; omega
    clear eq' hq0 hq5
    go_wp2
    have hif : (if (q : Int) < 1 then (q : Int) else 1) = 1 := if_neg (by have := HQ1.out; omega)
    refine wp_region_quiet_below (by kernel_rfl) (by kernel_rfl) ?_
    repeat (quiet_step (first | (go_at_call 17; exact GL.out _ _) | (go_at_call_of 11 (Value.int IntKind.u8 0); exact GX.out _ _) | (go_at_call 11; exact GT.out _ _) | (go_at_call 9; exact GC.out _ _ (by assumption) (by assumption) _ _)))
    refine wpQuiet_nil ?_
    intro _ hw'
    obtain ⟨⟨dq, osq⟩, hw''⟩ := hw'
    subst hw''
    go_wp2
    go_ret
    exact ⟨ret_bool (by simp), hb0.trans ((below_regrown _ dq osq).mono hb0.size)⟩

set_option maxRecDepth 100000 in
set_option maxHeartbeats 2000000 in
theorem walk_old (a b s n : Nat) (w : World) (h21 : ¬ 21 ≤ b) :
    Calls Try.prog 8 #[.int .u32 a, .int .u32 b, .int .u8 s, .int .u32 n] w fun e w' => e = .returned (.bool true) ∧ Below w.heap.size w w' := by
  have N1 := Lib.hid (fun w => sRNew a b s n w)
  rw [decide_eq_false h21] at N1
  clear h21
  go_enter Try.func8, Try.ntmps8
  go_wp2_with fail
  refine (N1.out _).mono ?_
  rintro e w1 ⟨rfl, hb1⟩
  go_wp2_with fail
  go_ret
  exact ⟨rfl, ((Below.refl _ _).alloc (Nat.le_refl _) _).trans (hb1.mono (by simp))⟩

set_option maxRecDepth 100000 in
set_option maxHeartbeats 2000000 in
theorem walk_last (a b s n : Nat) (w : World) (h21 : 21 ≤ b) (h : b = 4294967295) :
    Calls Try.prog 8 #[.int .u32 a, .int .u32 b, .int .u8 s, .int .u32 n] w fun e w' => e = .returned (.bool true) ∧ Below w.heap.size w w' := by
  have N1 := Lib.hid (fun w => sRNew a b s n w)
  rw [decide_eq_true h21] at N1
  have bm : ((b : Int) == 4294967295) = true := by rw [beq_iff_eq]; omega
  clear h h21
  go_enter Try.func8, Try.ntmps8
  go_wp2_with fail
  refine (N1.out _).mono ?_
  rintro e w1 ⟨rfl, hb1⟩
  go_wp2_with fail
  go_ret
  exact ⟨rfl, ((Below.refl _ _).alloc (Nat.le_refl _) _).trans (hb1.mono (by simp))⟩

theorem walk (a0 a1 a2 a3 : Int) (w0 : (Lit.int .u32 a0).wf = true) (w1 : (Lit.int .u32 a1).wf = true) (w2 : (Lit.int .u8 a2).wf = true) (w3 : (Lit.int .u32 a3).wf = true) (w : World) :
    Calls Try.prog 8 #[.int .u32 a0, .int .u32 a1, .int .u8 a2, .int .u32 a3] w fun e w' => e = .returned (.bool true) ∧ Below w.heap.size w w' := by
  obtain ⟨a, rfl, ha⟩ := nat_u32 w0
  obtain ⟨b, rfl, hb⟩ := nat_u32 w1
  obtain ⟨s, rfl, hs⟩ := nat_u8 w2
  obtain ⟨n, rfl, hn⟩ := nat_u32 w3
  by_cases h21 : 21 ≤ b
  · by_cases hl : b = 4294967295
    · exact walk_last a b s n w h21 hl
    · refine walk_new a b s n w ha (by omega) hs hn h21 _ _ rfl rfl ?_
      unfold ord
      by_cases h0 : s % 5 = 0
      · left; rw [h0]; simp
      · right
        refine ⟨by omega, ?_⟩
        rw [if_pos (by omega)]
  · exact walk_old a b s n w h21

set_option maxRecDepth 100000 in
theorem lifted (os : Os) (started : os.Started) (H : Type) (enc : TypeId × Value → H) :
    ReturnsInHanded {} Try.checked os 8 .any (Rows.fnLangFirstSpec.pre6 enc Try.prog Try.f8 Rows.fnLangFirstRow.domain false) (Rows.fnLangFirstSpec.post enc Try.prog Try.f8 false true false false) := by
  refine returnsInHanded_of_change (C := Try.checked) own started (by kernel_rfl) Try.func8
    (ChangeSpec.witness6 (enc := enc) (C := Try.checked) false ⟨#[], #[.int .u32 0, .int .u32 0, .int .u8 0, .int .u32 0], []⟩ 8 (by kernel_rfl) (by kernel_rfl) (by kernel_rfl) (by kernel_rfl)) ?_
  intro W base args ds gs before hval0 hW hcnd _
  have hval : ∀ (j : Nat) t v, Try.f8.params[j]? = some t → args[j]? = some v → Value.okWide Try.prog W .any base t v := hval0
  have hW' := hW
  obtain ⟨p, q, hA0, hV, rfl, hfz, hnd⟩ := hW
  have hA : DataW.TrodAll enc Try.prog W 0 (fun _ => true) true Try.f8.params.toList args.toList ds p := hA0
  rw [Try.params8] at hA hval
  obtain ⟨v0, vs0, d0, ds0, p0, q0, hargs, rfl, rfl, h0, r0⟩ := trodAll_cons hA
  obtain ⟨v1, vs1, d1, ds1, p1, q1, rfl, rfl, rfl, h1, r1⟩ := trodAll_cons r0
  obtain ⟨v2, vs2, d2, ds2, p2, q2, rfl, rfl, rfl, h2, r2⟩ := trodAll_cons r1
  obtain ⟨v3, vs3, d3, ds3, p3, q3, rfl, rfl, rfl, h3, r3⟩ := trodAll_cons r2
  obtain ⟨rfl, rfl, rfl⟩ := trodAll_nil r3
  obtain rfl : args = #[v0, v1, v2, v3] := by cases args; simp_all
  obtain ⟨rfl, rfl⟩ := trodVars_none hV
  obtain ⟨a0, rfl, rfl, rfl, w0⟩ := open_int Try.underlying24 (hval 0 24 v0 rfl rfl) h0
  obtain ⟨a1, rfl, rfl, rfl, w1⟩ := open_int Try.underlying24 (hval 1 24 v1 rfl rfl) h1
  obtain ⟨a2, rfl, rfl, rfl, w2⟩ := open_int Try.underlying5 (hval 2 5 v2 rfl rfl) h2
  obtain ⟨a3, rfl, rfl, rfl, w3⟩ := open_int Try.underlying24 (hval 3 24 v3 rfl rfl) h3
  clear hA0 hval0
  refine (walk a0 a1 a2 a3 w0 w1 w2 w3 W).mono fun e W' ⟨he, bel⟩ => ?_
  subst he
  exact ⟨_, rfl, _, _, _, [], _, [], hW', trodAll_mk1 (shut_bool Try.underlying4 _), (trodAll_cons_mk (shut_int Try.underlying24 w0) (trodAll_cons_mk (shut_int Try.underlying24 w1) (trodAll_cons_mk (shut_int Try.underlying5 w2) (trodAll_cons_mk (shut_int Try.underlying24 w3) trodAll_mk0)))), rfl, bel.frame _, fun h => by cases h⟩

theorem over : Rows.fnLangFirstRow.holds Try.pinned (OpenSpec.ofChange Rows.fnLangFirstSpec) :=
  OpenClaim.holds_of_wide 8 Try.f8 rfl rfl rfl rfl rfl rfl rfl ⟨rfl, rfl, rfl, rfl, rfl⟩ rfl rfl rfl rfl rfl (by as_aux_lemma => kernel_rfl) Try.func8 (by as_aux_lemma => kernel_rfl)
    (of_decide_eq_true (by as_aux_lemma => kernel_rfl)) (by unfold Func.isWrapper; first | (rw [if_pos (by decide +kernel)]; kernel_rfl) | (rw [if_neg (by decide +kernel)]; exact ⟨rfl, rfl⟩))
    (fun os started H enc _ => lifted os started H enc)

/-- THE STATEMENT. -/
theorem proved : Rows.FnLangFirstSaid :=
  over
#print axioms proved
end Go.Proofs.Ytdkcpjlcpfkehac.fnLangFirst
