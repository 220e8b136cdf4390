/- FnExactOrder: versions since 1.21 are in the order of their numbers; of the same ones the language's is ahead of alphas, these of betas, of release candidates, and of releases, each in the order of their numbers. Conditions: none. -/
import Derived.Test.YtdkcpjlcpfkehabTwoRel
import Derived.Test.YtdkcpjlcpfkehabCmpV
import Derived.Test.YtdkcpjlcpfkehabSOrd
import Derived.Deep.RegionWith
namespace Go.Proofs.Ytdkcpjlcpfkehab.fnExactOrder
open Go.ChangeShapes Go.WideShapes Go.ChangeAt Go.RowKit Plain
open Go.ChangeMaps (open_string shut_string)
open Go.Sort (grow)
set_option linter.unusedVariables false

theorem cmpX_order {a b s n c d t m : Nat} (h1 : s % 5 ≠ 0 ∨ 21 ≤ b) (h2 : t % 5 ≠ 0 ∨ 21 ≤ d) : cmpX (textOf a b s n) (textOf c d t m) = orderOf a b s n c d t m := by
  unfold cmpX
  rw [parse_textOf a b s n h1, parse_textOf c d t m h2, cmpV_verOf]

set_option maxRecDepth 100000 in
set_option maxHeartbeats 4000000 in
theorem walk_new (a b c d s t n m : Nat) (w : World) (ha : a < 4294967296) (hb : b < 4294967296) (hs : s < 256) (hn : n < 4294967296) (hc : c < 4294967296) (hd : d < 4294967296) (ht : t < 256) (hm : m < 4294967296) (h1 : 21 ≤ b) (h2 : 21 ≤ d) :
    Calls Try.prog 7 #[.int .u32 a, .int .u32 b, .int .u32 c, .int .u32 d, .int .u8 s, .int .u8 t, .int .u32 n, .int .u32 m] w fun e w' => e = .returned (.bool true) ∧ Below w.heap.size w w' := by
  have hl1 : (textOf a b s n).length ≤ 140737488351232 := by have := textOf_len (s := s) ha hb hn; omega
  have hl2 : (textOf c d t m).length ≤ 140737488351232 := by have := textOf_len (s := t) hc hd hm; omega
  have hord := cmpX_order (a := a) (s := s) (n := n) (c := c) (t := t) (m := m) (Or.inr h1) (Or.inr h2)
  have N1 := Lib.hid (fun w => sRNew a b s n w)
  have N2 := Lib.hid (fun w => sRNew c d t m w)
  rw [decide_eq_true h1] at N1
  rw [decide_eq_true h2] at N2
  obtain ⟨c0, c1, c2, c3⟩ := two_cells w a b s n (.cells #[.int .u32 c, .int .u32 d, .int .u8 t, .int .u32 m] 28)
  obtain ⟨d0, d1, d2, d3⟩ := two_cells' w (.cells #[.int .u32 a, .int .u32 b, .int .u8 s, .int .u32 n] 28) c d t m
  have CCw := Lib.hid (fun w => iCompare (textOf a b s n) (textOf c d t m) w hl1 hl2)
  rw [hord] at CCw
  have TTa := Lib.hid (fun w => sRText a b s n w ha hb hs hn)
  have TTb := Lib.hid (fun w => sRText c d t m w hc hd ht hm)
  have OO := Lib.hid (fun w => sOrder a b s n c d t m w hs ht)
  clear hord h1 h2 hl1 hl2 ha hb hs hn hc hd ht hm
  generalize orderOf a b s n c d t m = R at *
  generalize textOf a b s n = t1 at *
  generalize textOf c d t m = t2 at *
  go_enter Try.func7, Try.ntmps7
  go_wp2_with fail
  refine (N1.out _).mono ?_
  rintro e w1 ⟨rfl, hb1⟩
  have C0 := (bcell hb1).1
  have c0 := (C0 w.heap.size 0 (by simp; omega)).trans c0
  have c1 := (C0 w.heap.size 1 (by simp; omega)).trans c1
  have c2 := (C0 w.heap.size 2 (by simp; omega)).trans c2
  have c3 := (C0 w.heap.size 3 (by simp; omega)).trans c3
  have d0 := (C0 (w.heap.size + 1) 0 (by simp)).trans d0
  have d1 := (C0 (w.heap.size + 1) 1 (by simp)).trans d1
  have d2 := (C0 (w.heap.size + 1) 2 (by simp)).trans d2
  have d3 := (C0 (w.heap.size + 1) 3 (by simp)).trans d3
  have hz1 : w.heap.size + 1 < w1.heap.size := by have := hb1.size; simp at this; omega
  have hb0 : Below w.heap.size w w1 := (((Below.refl _ _).alloc (Nat.le_refl _) _).alloc (by simp) _).trans (hb1.mono (by simp; omega))
  clear C0 hb1
  go_wp2_with fail
  refine (N2.out _).mono ?_
  rintro e w2 ⟨rfl, hb2⟩
  have C0 := (bcell hb2).1
  have c0 := (C0 w.heap.size 0 (by omega)).trans c0
  have c1 := (C0 w.heap.size 1 (by omega)).trans c1
  have c2 := (C0 w.heap.size 2 (by omega)).trans c2
  have c3 := (C0 w.heap.size 3 (by omega)).trans c3
  have d0 := (C0 (w.heap.size + 1) 0 hz1).trans d0
  have d1 := (C0 (w.heap.size + 1) 1 hz1).trans d1
  have d2 := (C0 (w.heap.size + 1) 2 hz1).trans d2
  have d3 := (C0 (w.heap.size + 1) 3 hz1).trans d3
  have hb3 : Below w.heap.size w w2 := hb0.trans (hb2.mono hb0.size)
  clear C0 hb0 hb2 hz1
  have k0 := cell_regrown c0
  have k1 := cell_regrown c1
  have k2 := cell_regrown c2
  have k3 := cell_regrown c3
  have l0 := cell_regrown d0
  have l1 := cell_regrown d1
  have l2 := cell_regrown d2
  have l3 := cell_regrown d3
  have T1 := Lib.hid (fun e os => Calls.regrown_of (TTa.out (grow (redrawn w2 e) os)))
  have T2 := Lib.hid (fun e os => Calls.regrown_of (TTb.out (grow (redrawn w2 e) os)))
  have CC := Lib.hid (fun e os => Calls.regrown_of (CCw.out (grow (redrawn w2 e) os)))
  have CO := Lib.hid (fun e os => Calls.regrown_of (OO.out (grow (redrawn w2 e) os)))
  clear c0 c1 c2 c3 d0 d1 d2 d3 TTa TTb CCw OO N1 N2
  go_wp2
  refine wp_region_quiet_below (by kernel_rfl) (by kernel_rfl) ?_
  repeat (quiet_step (first | (go_at_call_of 13 (Value.int IntKind.u32 (n : Int)); exact T1.out _ _) | (go_at_call_of 13 (Value.int IntKind.u32 (m : Int)); exact T2.out _ _) | (go_at_call 15; exact CC.out _ _) | (go_at_call 17; exact CO.out _ _)))
  refine wpQuiet_nil ?_
  intro _ hw'
  obtain ⟨⟨dq, osq⟩, hw''⟩ := hw'
  subst hw''
  go_wp2
  go_ret
  exact ⟨ret_bool (by simp), hb3.trans ((below_regrown _ dq osq).mono hb3.size)⟩

set_option maxRecDepth 100000 in
set_option maxHeartbeats 2000000 in
theorem walk_old1 (a b c d s t n m : Nat) (w : World) (h1 : ¬ 21 ≤ b) :
    Calls Try.prog 7 #[.int .u32 a, .int .u32 b, .int .u32 c, .int .u32 d, .int .u8 s, .int .u8 t, .int .u32 n, .int .u32 m] w fun e w' => e = .returned (.bool true) ∧ Below w.heap.size w w' := by
  have N1 := Lib.hid (fun w => sRNew a b s n w)
  rw [decide_eq_false h1] at N1
  clear h1
  go_enter Try.func7, Try.ntmps7
  go_wp2_with fail
  refine (N1.out _).mono ?_
  rintro e w1 ⟨rfl, hb1⟩
  go_wp2_with fail
  go_ret
  exact ⟨rfl, (((Below.refl _ _).alloc (Nat.le_refl _) _).alloc (by simp) _).trans (hb1.mono (by simp; omega))⟩

set_option maxRecDepth 100000 in
set_option maxHeartbeats 2000000 in
theorem walk_old2 (a b c d s t n m : Nat) (w : World) (h1 : 21 ≤ b) (h2 : ¬ 21 ≤ d) :
    Calls Try.prog 7 #[.int .u32 a, .int .u32 b, .int .u32 c, .int .u32 d, .int .u8 s, .int .u8 t, .int .u32 n, .int .u32 m] w fun e w' => e = .returned (.bool true) ∧ Below w.heap.size w w' := by
  have N1 := Lib.hid (fun w => sRNew a b s n w)
  have N2 := Lib.hid (fun w => sRNew c d t m w)
  rw [decide_eq_true h1] at N1
  rw [decide_eq_false h2] at N2
  clear h1 h2
  go_enter Try.func7, Try.ntmps7
  go_wp2_with fail
  refine (N1.out _).mono ?_
  rintro e w1 ⟨rfl, hb1⟩
  have hb0 : Below w.heap.size w w1 := (((Below.refl _ _).alloc (Nat.le_refl _) _).alloc (by simp) _).trans (hb1.mono (by simp; omega))
  obtain ⟨hcl, hfz⟩ := bcell hb1
  clear hb1
  go_wp2_with fail
  refine (N2.out _).mono ?_
  rintro e w2 ⟨rfl, hb2⟩
  go_wp2_with fail
  go_ret
  exact ⟨rfl, hb0.trans (hb2.mono hb0.size)⟩

theorem walkN (a b c d s t n m : Nat) (w : World) (ha : a < 4294967296) (hb : b < 4294967296) (hs : s < 256) (hn : n < 4294967296) (hc : c < 4294967296) (hd : d < 4294967296) (ht : t < 256) (hm : m < 4294967296) :
    Calls Try.prog 7 #[.int .u32 a, .int .u32 b, .int .u32 c, .int .u32 d, .int .u8 s, .int .u8 t, .int .u32 n, .int .u32 m] w fun e w' => e = .returned (.bool true) ∧ Below w.heap.size w w' := by
  by_cases h1 : 21 ≤ b
  · by_cases h2 : 21 ≤ d
    · exact walk_new a b c d s t n m w ha hb hs hn hc hd ht hm h1 h2
    · exact walk_old2 a b c d s t n m w h1 h2
  · exact walk_old1 a b c d s t n m w h1

theorem walk (a0 a1 a2 a3 a4 a5 a6 a7 : Int) (w0 : (Lit.int .u32 a0).wf = true) (w1 : (Lit.int .u32 a1).wf = true) (w2 : (Lit.int .u32 a2).wf = true) (w3 : (Lit.int .u32 a3).wf = true) (w4 : (Lit.int .u8 a4).wf = true) (w5 : (Lit.int .u8 a5).wf = true) (w6 : (Lit.int .u32 a6).wf = true) (w7 : (Lit.int .u32 a7).wf = true) (w : World) :
    Calls Try.prog 7 #[.int .u32 a0, .int .u32 a1, .int .u32 a2, .int .u32 a3, .int .u8 a4, .int .u8 a5, .int .u32 a6, .int .u32 a7] w fun e w' => e = .returned (.bool true) ∧ Below w.heap.size w w' := by
  obtain ⟨a, rfl, ha⟩ := nat_u32 w0
  obtain ⟨b, rfl, hb⟩ := nat_u32 w1
  obtain ⟨c, rfl, hc⟩ := nat_u32 w2
  obtain ⟨d, rfl, hd⟩ := nat_u32 w3
  obtain ⟨s, rfl, hs⟩ := nat_u8 w4
  obtain ⟨t, rfl, ht⟩ := nat_u8 w5
  obtain ⟨n, rfl, hn⟩ := nat_u32 w6
  obtain ⟨m, rfl, hm⟩ := nat_u32 w7
  exact walkN a b c d s t n m w ha hb hs hn hc hd ht hm

set_option maxRecDepth 100000 in
theorem lifted (os : Os) (started : os.Started) (H : Type) (enc : TypeId × Value → H) :
    ReturnsInHanded {} Try.checked os 7 .any (Rows.fnExactOrderSpec.pre6 enc Try.prog Try.f7 Rows.fnExactOrderRow.domain false) (Rows.fnExactOrderSpec.post enc Try.prog Try.f7 false true false false) := by
  refine returnsInHanded_of_change (C := Try.checked) own started (by kernel_rfl) Try.func7
    (ChangeSpec.witness6 (enc := enc) (C := Try.checked) false ⟨#[], #[.int .u32 0, .int .u32 0, .int .u32 0, .int .u32 0, .int .u8 0, .int .u8 0, .int .u32 0, .int .u32 0], []⟩ 8 (by kernel_rfl) (by kernel_rfl) (by kernel_rfl) (by kernel_rfl)) ?_
  intro W base args ds gs before hval0 hW hcnd _
  have hval : ∀ (j : Nat) t v, Try.f7.params[j]? = some t → args[j]? = some v → Value.okWide Try.prog W .any base t v := hval0
  have hW' := hW
  obtain ⟨p, q, hA0, hV, rfl, hfz, hnd⟩ := hW
  have hA : DataW.TrodAll enc Try.prog W 0 (fun _ => true) true Try.f7.params.toList args.toList ds p := hA0
  rw [Try.params7] at hA hval
  obtain ⟨v0, vs0, d0, ds0, p0, q0, hargs, rfl, rfl, h0, r0⟩ := trodAll_cons hA
  obtain ⟨v1, vs1, d1, ds1, p1, q1, rfl, rfl, rfl, h1, r1⟩ := trodAll_cons r0
  obtain ⟨v2, vs2, d2, ds2, p2, q2, rfl, rfl, rfl, h2, r2⟩ := trodAll_cons r1
  obtain ⟨v3, vs3, d3, ds3, p3, q3, rfl, rfl, rfl, h3, r3⟩ := trodAll_cons r2
  obtain ⟨v4, vs4, d4, ds4, p4, q4, rfl, rfl, rfl, h4, r4⟩ := trodAll_cons r3
  obtain ⟨v5, vs5, d5, ds5, p5, q5, rfl, rfl, rfl, h5, r5⟩ := trodAll_cons r4
  obtain ⟨v6, vs6, d6, ds6, p6, q6, rfl, rfl, rfl, h6, r6⟩ := trodAll_cons r5
  obtain ⟨v7, vs7, d7, ds7, p7, q7, rfl, rfl, rfl, h7, r7⟩ := trodAll_cons r6
  obtain ⟨rfl, rfl, rfl⟩ := trodAll_nil r7
  obtain rfl : args = #[v0, v1, v2, v3, v4, v5, v6, v7] := by cases args; simp_all
  obtain ⟨rfl, rfl⟩ := trodVars_none hV
  obtain ⟨a0, rfl, rfl, rfl, w0⟩ := open_int Try.underlying26 (hval 0 26 v0 rfl rfl) h0
  obtain ⟨a1, rfl, rfl, rfl, w1⟩ := open_int Try.underlying26 (hval 1 26 v1 rfl rfl) h1
  obtain ⟨a2, rfl, rfl, rfl, w2⟩ := open_int Try.underlying26 (hval 2 26 v2 rfl rfl) h2
  obtain ⟨a3, rfl, rfl, rfl, w3⟩ := open_int Try.underlying26 (hval 3 26 v3 rfl rfl) h3
  obtain ⟨a4, rfl, rfl, rfl, w4⟩ := open_int Try.underlying5 (hval 4 5 v4 rfl rfl) h4
  obtain ⟨a5, rfl, rfl, rfl, w5⟩ := open_int Try.underlying5 (hval 5 5 v5 rfl rfl) h5
  obtain ⟨a6, rfl, rfl, rfl, w6⟩ := open_int Try.underlying26 (hval 6 26 v6 rfl rfl) h6
  obtain ⟨a7, rfl, rfl, rfl, w7⟩ := open_int Try.underlying26 (hval 7 26 v7 rfl rfl) h7
  clear hA0 hval0
  refine (walk a0 a1 a2 a3 a4 a5 a6 a7 w0 w1 w2 w3 w4 w5 w6 w7 W).mono fun e W' ⟨he, bel⟩ => ?_
  subst he
  exact ⟨_, rfl, _, _, _, [], _, [], hW', trodAll_mk1 (shut_bool Try.underlying4 _), (trodAll_cons_mk (shut_int Try.underlying26 w0) (trodAll_cons_mk (shut_int Try.underlying26 w1) (trodAll_cons_mk (shut_int Try.underlying26 w2) (trodAll_cons_mk (shut_int Try.underlying26 w3) (trodAll_cons_mk (shut_int Try.underlying5 w4) (trodAll_cons_mk (shut_int Try.underlying5 w5) (trodAll_cons_mk (shut_int Try.underlying26 w6) (trodAll_cons_mk (shut_int Try.underlying26 w7) trodAll_mk0)))))))), rfl, bel.frame _, fun h => by cases h⟩

theorem over : Rows.fnExactOrderRow.holds Try.pinned (OpenSpec.ofChange Rows.fnExactOrderSpec) :=
  OpenClaim.holds_of_wide 7 Try.f7 rfl rfl rfl rfl rfl rfl rfl ⟨rfl, rfl, rfl, rfl, rfl⟩ rfl rfl rfl rfl rfl (by as_aux_lemma => kernel_rfl) Try.func7 (by as_aux_lemma => kernel_rfl)
    (of_decide_eq_true (by as_aux_lemma => kernel_rfl)) (by unfold Func.isWrapper; first | (rw [if_pos (by decide +kernel)]; kernel_rfl) | (rw [if_neg (by decide +kernel)]; exact ⟨rfl, rfl⟩))
    (fun os started H enc _ => lifted os started H enc)

/-- THE STATEMENT. -/
theorem proved : Rows.FnExactOrderSaid :=
  over
#print axioms proved
end Go.Proofs.Ytdkcpjlcpfkehab.fnExactOrder
