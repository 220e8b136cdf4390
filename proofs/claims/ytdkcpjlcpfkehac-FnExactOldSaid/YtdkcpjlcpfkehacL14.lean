/- FnExactOld: before 1.21 the version without a patch is the release with the patch 0. Conditions: none. -/
import Derived.Test.YtdkcpjlcpfkehacTwoRel
import Derived.Test.YtdkcpjlcpfkehacCmpV
import Derived.Deep.RegionWith
namespace Go.Proofs.Ytdkcpjlcpfkehac.fnExactOld
open Go.ChangeShapes Go.WideShapes Go.ChangeAt Go.RowKit Plain
open Go.ChangeMaps (open_string shut_string)
open Go.Sort (grow)
set_option linter.unusedVariables false

theorem first_cells (w : World) (X : Obj) (a r : Nat) :
    ((w.alloc X).alloc (.cells #[.int .u32 a, .int .u32 r, .int .u8 4, .int .u32 0] 26)).cell? ⟨w.heap.size + 1, 0, none⟩ = some (.int .u32 a) ∧
    ((w.alloc X).alloc (.cells #[.int .u32 a, .int .u32 r, .int .u8 4, .int .u32 0] 26)).cell? ⟨w.heap.size + 1, 1, none⟩ = some (.int .u32 r) ∧
    ((w.alloc X).alloc (.cells #[.int .u32 a, .int .u32 r, .int .u8 4, .int .u32 0] 26)).cell? ⟨w.heap.size + 1, 2, none⟩ = some (.int .u8 4) ∧
    ((w.alloc X).alloc (.cells #[.int .u32 a, .int .u32 r, .int .u8 4, .int .u32 0] 26)).cell? ⟨w.heap.size + 1, 3, none⟩ = some (.int .u32 0) := two_cells' w X a r 4 0

theorem dec0' : dec 0 = [48] := by rw [dec_small (by omega)]; rfl

theorem parse_old {a r : Nat} (h : r < 21) : parse (langOf a r) = ⟨dec a, dec r, [48], [], []⟩ := by
  rw [parse_langOf, if_pos h]

theorem parse_first (a r : Nat) : parse (textOf a r 4 0) = ⟨dec a, dec r, [48], [], []⟩ := by
  rw [parse_textOf a r 4 0 (Or.inl (by omega))]
  unfold verOf
  rw [if_neg (by omega), if_pos rfl, dec0']

set_option maxRecDepth 100000 in
set_option maxHeartbeats 4000000 in
theorem walkN (a b s n : Nat) (w : World) (ha : a < 4294967296) (hb : b < 4294967296) (hs : s < 256) (hn : n < 4294967296) :
    Calls Try.prog 4 #[.int .u32 a, .int .u32 b, .int .u8 s, .int .u32 n] w fun e w' => e = .returned (.bool true) ∧ Below w.heap.size w w' := by
  obtain ⟨r, hr⟩ : ∃ r, b % 21 = r := ⟨_, rfl⟩
  have er : (b : Int) % 21 = (r : Int) := by omega
  have hr21 : r < 21 := by omega
  have hrb : r < 4294967296 := by omega
  clear hr
  have lt : (textOf a r s n).length ≤ 140737488351232 := by have := textOf_len (s := s) ha hrb hn; omega
  have lf : (textOf a r 4 0).length ≤ 140737488351232 := by have := textOf_len (s := 4) ha hrb (n := 0) (by omega); omega
  have lg : (langOf a r).length ≤ 140737488351232 := by have := langOf_len ha hrb; omega
  obtain ⟨c0, c1, c2, c3⟩ := two_cells w a r s n (.cells #[.int .u32 a, .int .u32 r, .int .u8 4, .int .u32 0] 26)
  obtain ⟨d0, d1, d2, d3⟩ := first_cells w (.cells #[.int .u32 a, .int .u32 r, .int .u8 s, .int .u32 n] 26) a r
  have k0 := cell_regrown c0
  have k1 := cell_regrown c1
  have k2 := cell_regrown c2
  have k3 := cell_regrown c3
  have l0 := cell_regrown d0
  have l1 := cell_regrown d1
  have l2 := cell_regrown d2
  have l3 := cell_regrown d3
  have GL := Lib.hid (fun e os => Calls.regrown_of (sRLang a r s n (grow (redrawn ((w.alloc (.cells #[.int .u32 a, .int .u32 r, .int .u8 s, .int .u32 n] 26)).alloc (.cells #[.int .u32 a, .int .u32 r, .int .u8 4, .int .u32 0] 26)) e) os) ha hrb))
  have GT := Lib.hid (fun e os => Calls.regrown_of (sRText a r s n (grow (redrawn ((w.alloc (.cells #[.int .u32 a, .int .u32 r, .int .u8 s, .int .u32 n] 26)).alloc (.cells #[.int .u32 a, .int .u32 r, .int .u8 4, .int .u32 0] 26)) e) os) ha hrb hs hn))
  have GF0 : ∀ w : World, Calls Try.prog 11 #[.agg #[.int .u32 a, .int .u32 r, .int .u8 4, .int .u32 0]] w fun e w' => e = .returned (.string (mk (textOf a r 4 0))) ∧ Below w.heap.size w w' := fun w => sRText a r 4 0 w ha hrb (by omega) (by omega)
  have GF := Lib.hid (fun e os => Calls.regrown_of (GF0 (grow (redrawn ((w.alloc (.cells #[.int .u32 a, .int .u32 r, .int .u8 s, .int .u32 n] 26)).alloc (.cells #[.int .u32 a, .int .u32 r, .int .u8 4, .int .u32 0] 26)) e) os)))
  have GC := Lib.hid (fun (p q : List UInt8) (hp : p.length ≤ 140737488351232) (hq : q.length ≤ 140737488351232) e os => Calls.regrown_of (iCompare p q (grow (redrawn ((w.alloc (.cells #[.int .u32 a, .int .u32 r, .int .u8 s, .int .u32 n] 26)).alloc (.cells #[.int .u32 a, .int .u32 r, .int .u8 4, .int .u32 0] 26)) e) os) hp hq))
  have GP := Lib.hid (fun e os => Calls.regrown_of (iParse (langOf a r) (grow (redrawn ((w.alloc (.cells #[.int .u32 a, .int .u32 r, .int .u8 s, .int .u32 n] 26)).alloc (.cells #[.int .u32 a, .int .u32 r, .int .u8 4, .int .u32 0] 26)) e) os) lg))
  rw [parse_old hr21] at GP
  unfold verV at GP
  simp only [] at GP
  have e1 : cmpX (langOf a r) (textOf a r 4 0) = 0 := (cmpX_zero _ _).2 ((parse_old hr21).trans (parse_first a r).symm)
  have e2 : cmpX (langOf a r) (textOf a r s n) = cmpX (textOf a r 4 0) (textOf a r s n) := by
    unfold cmpX
    rw [parse_old hr21, parse_first a r]
  generalize langOf a r = g at *
  generalize textOf a r 4 0 = f at *
  generalize textOf a r s n = t at *
  generalize dec a = da at *
  generalize dec r = dr at *
  have hfld : ∀ (W : World), (Instr.field 29 (.agg #[.string (mk da), .string (mk dr), .string (mk [48]), .string (mk []), .string (mk [])]) 2).run Try.prog W = .ok (.string (mk [48])) W := fun _ => by kernel_rfl
  clear c0 c1 c2 c3 d0 d1 d2 d3 GF0 ha hb hs hn hr21 hrb
  go_enter Try.func4, Try.ntmps4
  go_wp2
  refine wp_region_quiet_below (by kernel_rfl) (by kernel_rfl) ?_
  repeat (quiet_step (first | (go_at_call 10; exact GL.out _ _) | (go_at_call_of 11 (Value.int IntKind.u8 4); exact GF.out _ _) | (go_at_call 11; exact GT.out _ _) | (go_at_call 9; exact GC.out _ _ (by assumption) (by assumption) _ _) | (go_at_call 12; exact GP.out _ _)))
  refine wpQuiet_nil ?_
  intro _ hw'
  obtain ⟨⟨dq, osq⟩, hw''⟩ := hw'
  subst hw''
  go_wp2
  go_ret
  exact ⟨ret_bool (by simp), (((Below.refl _ _).alloc (Nat.le_refl _) _).alloc (by simp) _).trans ((below_regrown _ dq osq).mono (by simp; omega))⟩

theorem walk (a0 a1 a2 a3 : Int) (w0 : (Lit.int .u32 a0).wf = true) (w1 : (Lit.int .u32 a1).wf = true) (w2 : (Lit.int .u8 a2).wf = true) (w3 : (Lit.int .u32 a3).wf = true) (w : World) :
    Calls Try.prog 4 #[.int .u32 a0, .int .u32 a1, .int .u8 a2, .int .u32 a3] w fun e w' => e = .returned (.bool true) ∧ Below w.heap.size w w' := by
  obtain ⟨a, rfl, ha⟩ := nat_u32 w0
  obtain ⟨b, rfl, hb⟩ := nat_u32 w1
  obtain ⟨s, rfl, hs⟩ := nat_u8 w2
  obtain ⟨n, rfl, hn⟩ := nat_u32 w3
  exact walkN a b s n w ha hb hs hn

set_option maxRecDepth 100000 in
theorem lifted (os : Os) (started : os.Started) (H : Type) (enc : TypeId × Value → H) :
    ReturnsInHanded {} Try.checked os 4 .any (Rows.fnExactOldSpec.pre6 enc Try.prog Try.f4 Rows.fnExactOldRow.domain false) (Rows.fnExactOldSpec.post enc Try.prog Try.f4 false true false false) := by
  refine returnsInHanded_of_change (C := Try.checked) own started (by kernel_rfl) Try.func4
    (ChangeSpec.witness6 (enc := enc) (C := Try.checked) false ⟨#[], #[.int .u32 0, .int .u32 0, .int .u8 0, .int .u32 0], []⟩ 8 (by kernel_rfl) (by kernel_rfl) (by kernel_rfl) (by kernel_rfl)) ?_
  intro W base args ds gs before hval0 hW hcnd _
  have hval : ∀ (j : Nat) t v, Try.f4.params[j]? = some t → args[j]? = some v → Value.okWide Try.prog W .any base t v := hval0
  have hW' := hW
  obtain ⟨p, q, hA0, hV, rfl, hfz, hnd⟩ := hW
  have hA : DataW.TrodAll enc Try.prog W 0 (fun _ => true) true Try.f4.params.toList args.toList ds p := hA0
  rw [Try.params4] at hA hval
  obtain ⟨v0, vs0, d0, ds0, p0, q0, hargs, rfl, rfl, h0, r0⟩ := trodAll_cons hA
  obtain ⟨v1, vs1, d1, ds1, p1, q1, rfl, rfl, rfl, h1, r1⟩ := trodAll_cons r0
  obtain ⟨v2, vs2, d2, ds2, p2, q2, rfl, rfl, rfl, h2, r2⟩ := trodAll_cons r1
  obtain ⟨v3, vs3, d3, ds3, p3, q3, rfl, rfl, rfl, h3, r3⟩ := trodAll_cons r2
  obtain ⟨rfl, rfl, rfl⟩ := trodAll_nil r3
  obtain rfl : args = #[v0, v1, v2, v3] := by cases args; simp_all
  obtain ⟨rfl, rfl⟩ := trodVars_none hV
  obtain ⟨a0, rfl, rfl, rfl, w0⟩ := open_int Try.underlying24 (hval 0 24 v0 rfl rfl) h0
  obtain ⟨a1, rfl, rfl, rfl, w1⟩ := open_int Try.underlying24 (hval 1 24 v1 rfl rfl) h1
  obtain ⟨a2, rfl, rfl, rfl, w2⟩ := open_int Try.underlying5 (hval 2 5 v2 rfl rfl) h2
  obtain ⟨a3, rfl, rfl, rfl, w3⟩ := open_int Try.underlying24 (hval 3 24 v3 rfl rfl) h3
  clear hA0 hval0
  refine (walk a0 a1 a2 a3 w0 w1 w2 w3 W).mono fun e W' ⟨he, bel⟩ => ?_
  subst he
  exact ⟨_, rfl, _, _, _, [], _, [], hW', trodAll_mk1 (shut_bool Try.underlying4 _), (trodAll_cons_mk (shut_int Try.underlying24 w0) (trodAll_cons_mk (shut_int Try.underlying24 w1) (trodAll_cons_mk (shut_int Try.underlying5 w2) (trodAll_cons_mk (shut_int Try.underlying24 w3) trodAll_mk0)))), rfl, bel.frame _, fun h => by cases h⟩

theorem over : Rows.fnExactOldRow.holds Try.pinned (OpenSpec.ofChange Rows.fnExactOldSpec) :=
  OpenClaim.holds_of_wide 4 Try.f4 rfl rfl rfl rfl rfl rfl rfl ⟨rfl, rfl, rfl, rfl, rfl⟩ rfl rfl rfl rfl rfl (by as_aux_lemma => kernel_rfl) Try.func4 (by as_aux_lemma => kernel_rfl)
    (of_decide_eq_true (by as_aux_lemma => kernel_rfl)) (by unfold Func.isWrapper; first | (rw [if_pos (by decide +kernel)]; kernel_rfl) | (rw [if_neg (by decide +kernel)]; exact ⟨rfl, rfl⟩))
    (fun os started H enc _ => lifted os started H enc)

/-- THE STATEMENT. -/
theorem proved : Rows.FnExactOldSaid :=
  over
#print axioms proved
end Go.Proofs.Ytdkcpjlcpfkehac.fnExactOld
