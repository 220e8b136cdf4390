/- The walk of the reference's Release.Version: a release, taken apart. -/
import Derived.Test.YtdkcpjlcpfkehaaRel
import Derived.Test.YtdkcpjlcpfkehaaParse4
import Derived.Deep.RegionHeld3
import Derived.Deep.DeepCutAuto
namespace Go.Proofs.Ytdkcpjlcpfkehaa
open Go.RowKit Plain

/-- What the first statement leaves: the version in a block of its own, the box and the result's block as they were. -/
structure VCut (w : World) (a b s n g : Nat) (wx : World) : Prop where
  v0 : wx.cell? ⟨g, 0, none⟩ = some (.string (mk (dec a)))
  v1 : wx.cell? ⟨g, 1, none⟩ = some (.string (mk (dec b)))
  v2 : wx.cell? ⟨g, 2, none⟩ = some (.string (mk []))
  v3 : wx.cell? ⟨g, 3, none⟩ = some (.string (mk (kindOf s)))
  v4 : wx.cell? ⟨g, 4, none⟩ = some (.string (mk []))
  fr : ∀ o, wx.frozen? ⟨g, o, none⟩ = false
  b2 : wx.cell? ⟨w.heap.size, 2, none⟩ = some (.int .u8 s)
  b3 : wx.cell? ⟨w.heap.size, 3, none⟩ = some (.int .u32 n)
  r : ∀ o, o < 5 → (wx.cell? ⟨w.heap.size + 1, o, none⟩).isSome = true
  rf : ∀ o, wx.frozen? ⟨w.heap.size + 1, o, none⟩ = false
  lo : w.heap.size + 1 < g
  hi : g < wx.heap.size
  bel : Below w.heap.size w wx

/-- 'Dec' in a world that holds a release's box at block B: what is asked of the world behind it. -/
structure DecLeft (W : World) (B : Nat) (x0 x1 x2 : Value) (B0 : Nat) (W0 : World) (w' : World) : Prop where
  bel : Below W.heap.size W w'
  c0 : w'.cell? ⟨B, 0, none⟩ = some x0
  c1 : w'.cell? ⟨B, 1, none⟩ = some x1
  c2 : w'.cell? ⟨B, 2, none⟩ = some x2
  lt : B < w'.heap.size
  ne : ¬ w'.heap.size = B
  ne' : ¬ B = w'.heap.size
  base : Below B0 W0 w'
  room : B0 ≤ w'.heap.size

theorem sDecK (m : Nat) (W : World) (B : Nat) (x0 x1 x2 : Value) (B0 : Nat) (W0 : World) (hm : m < 4294967296) (c0 : W.cell? ⟨B, 0, none⟩ = some x0) (c1 : W.cell? ⟨B, 1, none⟩ = some x1) (c2 : W.cell? ⟨B, 2, none⟩ = some x2) (hB : Below B0 W0 W) (hl : B0 ≤ W.heap.size) :
    Calls Try.prog 26 #[.int .u32 m] W fun e w' => e = .returned (.string (mk (dec m))) ∧ DecLeft W B x0 x1 x2 B0 W0 w' :=
  (sDec m W hm).mono fun _ w' ⟨he, hb⟩ => by
    have h0 : B < W.heap.size := World.block_lt_of_cell? _ _ c0
    have hz := hb.size
    exact ⟨he, hb, (hb.cell (p := ⟨B, 0, none⟩) h0).trans c0, (hb.cell (p := ⟨B, 1, none⟩) h0).trans c1, (hb.cell (p := ⟨B, 2, none⟩) h0).trans c2, by omega, by omega, by omega, hB.trans (hb.mono hl), by omega⟩

theorem vbase (w : World) (a b s n : Nat) {w2 : World} (hB : Below (w.heap.size + 2) ((w.alloc (.cells #[.int .u32 a, .int .u32 b, .int .u8 s, .int .u32 n] 28)).alloc (.cells #[.string ⟨#[]⟩, .string ⟨#[]⟩, .string ⟨#[]⟩, .string ⟨#[]⟩, .string ⟨#[]⟩] 31)) w2) :
    w2.cell? ⟨w.heap.size, 2, none⟩ = some (.int .u8 s) ∧ w2.cell? ⟨w.heap.size, 3, none⟩ = some (.int .u32 n) ∧ (∀ o, o < 5 → (w2.cell? ⟨w.heap.size + 1, o, none⟩).isSome = true) ∧ (∀ o, w2.frozen? ⟨w.heap.size + 1, o, none⟩ = false) := by
  obtain ⟨c0, c1, c2, c3⟩ := rel_cells w a b s n
  have h : w.heap.size < (w.alloc (.cells #[.int .u32 a, .int .u32 b, .int .u8 s, .int .u32 n] 28)).heap.size := by simp
  refine ⟨(hB.cell (p := ⟨w.heap.size, 2, none⟩) (by show w.heap.size < _; omega)).trans ((World.cell?_alloc_lt _ _ _ h).trans c2), (hB.cell (p := ⟨w.heap.size, 3, none⟩) (by show w.heap.size < _; omega)).trans ((World.cell?_alloc_lt _ _ _ h).trans c3), fun o ho => ?_, fun o => ?_⟩
  · rw [hB.cell (p := ⟨w.heap.size + 1, o, none⟩) (by show w.heap.size + 1 < _; omega)]
    have := World.cell?_alloc_new (w.alloc (.cells #[.int .u32 a, .int .u32 b, .int .u8 s, .int .u32 n] 28)) #[.string ⟨#[]⟩, .string ⟨#[]⟩, .string ⟨#[]⟩, .string ⟨#[]⟩, .string ⟨#[]⟩] 31 o
    rw [World.size_alloc] at this
    rw [this]
    simpa using ho
  · rw [hB.frozen (p := ⟨w.heap.size + 1, o, none⟩) (by show w.heap.size + 1 < _; omega)]
    have := World.frozen?_alloc_new (w.alloc (.cells #[.int .u32 a, .int .u32 b, .int .u8 s, .int .u32 n] 28)) #[.string ⟨#[]⟩, .string ⟨#[]⟩, .string ⟨#[]⟩, .string ⟨#[]⟩, .string ⟨#[]⟩] 31 o
    rw [World.size_alloc] at this
    exact this

theorem vbel (w : World) (a b s n : Nat) {w2 : World} (hB : Below (w.heap.size + 2) ((w.alloc (.cells #[.int .u32 a, .int .u32 b, .int .u8 s, .int .u32 n] 28)).alloc (.cells #[.string ⟨#[]⟩, .string ⟨#[]⟩, .string ⟨#[]⟩, .string ⟨#[]⟩, .string ⟨#[]⟩] 31)) w2) : Below w.heap.size w w2 :=
  (((Below.refl _ _).alloc (Nat.le_refl _) _).alloc (by simp) _).trans (hB.mono (by omega))

theorem vcut_new (w : World) (a b s n : Nat) {w2 : World} (hB : Below (w.heap.size + 2) ((w.alloc (.cells #[.int .u32 a, .int .u32 b, .int .u8 s, .int .u32 n] 28)).alloc (.cells #[.string ⟨#[]⟩, .string ⟨#[]⟩, .string ⟨#[]⟩, .string ⟨#[]⟩, .string ⟨#[]⟩] 31)) w2) (hl : w.heap.size + 2 ≤ w2.heap.size) :
    VCut w a b s n w2.heap.size (w2.alloc (.cells #[.string (mk (dec a)), .string (mk (dec b)), .string ⟨#[]⟩, .string (mk (kindOf s)), .string ⟨#[]⟩] 31)) := by
  obtain ⟨h1, h2, h3, h4⟩ := vbase w a b s n hB
  have k0 : w.heap.size < w2.heap.size := by omega
  have k1 : w.heap.size + 1 < w2.heap.size := by omega
  refine ⟨World.cell?_alloc_new _ _ _ _, World.cell?_alloc_new _ _ _ _, World.cell?_alloc_new _ _ _ _, World.cell?_alloc_new _ _ _ _, World.cell?_alloc_new _ _ _ _, fun o => World.frozen?_alloc_new _ _ _ _, (World.cell?_alloc_lt _ _ _ k0).trans h1, (World.cell?_alloc_lt _ _ _ k0).trans h2, fun o ho => ?_, fun o => ?_, by omega, by simp, (vbel w a b s n hB).alloc (by omega) _⟩
  · rw [World.cell?_alloc_lt _ _ _ k1]; exact h3 o ho
  · have hb : Below w2.heap.size w2 (w2.alloc (.cells #[.string (mk (dec a)), .string (mk (dec b)), .string ⟨#[]⟩, .string (mk (kindOf s)), .string ⟨#[]⟩] 31)) := (Below.refl _ _).alloc (Nat.le_refl _) _
    rw [hb.frozen (p := ⟨w.heap.size + 1, o, none⟩) k1]
    exact h4 o

theorem vcut_set (w : World) (a b s n g : Nat) {w2 : World} (hB : Below (w.heap.size + 2) ((w.alloc (.cells #[.int .u32 a, .int .u32 b, .int .u8 s, .int .u32 n] 28)).alloc (.cells #[.string ⟨#[]⟩, .string ⟨#[]⟩, .string ⟨#[]⟩, .string ⟨#[]⟩, .string ⟨#[]⟩] 31)) w2) (hg : w.heap.size + 2 ≤ g) (hl : g < w2.heap.size)
    (hc : ∀ o, o < 5 → (w2.cell? ⟨g, o, none⟩).isSome = true) (hf : ∀ o, w2.frozen? ⟨g, o, none⟩ = false) :
    VCut w a b s n g (((((w2.setCell ⟨g, 0, none⟩ (.string (mk (dec a)))).setCell ⟨g, 1, none⟩ (.string (mk (dec b)))).setCell ⟨g, 2, none⟩ (.string ⟨#[]⟩)).setCell ⟨g, 3, none⟩ (.string (mk (kindOf s)))).setCell ⟨g, 4, none⟩ (.string ⟨#[]⟩)) := by
  obtain ⟨h1, h2, h3, h4⟩ := vbase w a b s n hB
  have i0 := hc 0 (by omega)
  have i1 := hc 1 (by omega)
  have i2 := hc 2 (by omega)
  have i3 := hc 3 (by omega)
  have i4 := hc 4 (by omega)
  have n0 : ¬ g = w.heap.size := by omega
  have n1 : ¬ g = w.heap.size + 1 := by omega
  have hm : mk [] = ⟨#[]⟩ := rfl
  have bl := vbel w a b s n hB
  refine ⟨?_, ?_, ?_, ?_, ?_, ?_, ?_, ?_, ?_, ?_, by omega, by simp [World.size_setCell]; omega, ?_⟩
  · simp [World.cell?_setCell_other, World.cell?_setCell_same', i0]
  · simp [World.cell?_setCell_other, World.cell?_setCell_same', i1]
  · simp [World.cell?_setCell_other, World.cell?_setCell_same', i2, hm]
  · simp [World.cell?_setCell_other, World.cell?_setCell_same', i3]
  · simp [World.cell?_setCell_other, World.cell?_setCell_same', i4, hm]
  · intro o; simp [hf]
  · simp [World.cell?_setCell_other, h1]
  · simp [World.cell?_setCell_other, h2]
  · intro o ho; simp [World.cell?_setCell_other, h3 o ho]
  · intro o; simp [h4]
  · exact ((((bl.setCell (by show _ ≤ g; omega) _).setCell (by show _ ≤ g; omega) _).setCell (by show _ ≤ g; omega) _).setCell (by show _ ≤ g; omega) _).setCell (by show _ ≤ g; omega) _

theorem third_cell (w : World) (X Y : Obj) (C : Array Value) (T : TypeId) (o : Nat) : (((w.alloc X).alloc Y).alloc (.cells C T)).cell? ⟨w.heap.size + 1 + 1, o, none⟩ = C[o]? := by
  have := World.cell?_alloc_new ((w.alloc X).alloc Y) C T o
  rw [World.size_alloc, World.size_alloc] at this
  exact this
theorem third_frozen (w : World) (X Y : Obj) (C : Array Value) (T : TypeId) (o : Nat) : (((w.alloc X).alloc Y).alloc (.cells C T)).frozen? ⟨w.heap.size + 1 + 1, o, none⟩ = false := by
  have := World.frozen?_alloc_new ((w.alloc X).alloc Y) C T o
  rw [World.size_alloc, World.size_alloc] at this
  exact this

set_option maxRecDepth 100000 in
set_option maxHeartbeats 4000000 in
theorem sRVersion_all (a b s n : Nat) (w : World) (ha : a < 4294967296) (hb : b < 4294967296) (hs : s < 256) (hn : n < 4294967296) :
    Calls Try.prog 18 #[.agg #[.int .u32 a, .int .u32 b, .int .u8 s, .int .u32 n]] w fun e w' => e = .returned (verV (verOf a b s n)) ∧ Below w.heap.size w w' := by
  have SD := Lib.hid sDecK
  have SK := Lib.hid sKind
  go_enter Try.func18, Try.ntmps18
  go_upto_region 1 with fail
  go_cut [3] (fun s3 wx => ∃ g : Nat, s3 = .pointer (some ⟨g, 0, none⟩) ∧ VCut w a b s n g wx)
  case first =>
    go_region_held3 (fun w' => w'.cell? ⟨w.heap.size, 0, none⟩ = some (.int .u32 a) ∧ w'.cell? ⟨w.heap.size, 1, none⟩ = some (.int .u32 b) ∧ w'.cell? ⟨w.heap.size, 2, none⟩ = some (.int .u8 s)) (first | go_keep | (refine ⟨?_, ?_, ?_⟩ <;> (iterate 5 (refine (World.cell?_setCell_far _ _ _ _ (fun e => by have e' : w.heap.size + 1 + 1 = w.heap.size := e; omega)).trans ?_)) <;> assumption)) (first | (go_at_call 26; refine (SD.out _ _ w.heap.size (.int .u32 a) (.int .u32 b) (.int .u8 s) (w.heap.size + 2) ((w.alloc (.cells #[.int .u32 a, .int .u32 b, .int .u8 s, .int .u32 n] 28)).alloc (.cells #[.string ⟨#[]⟩, .string ⟨#[]⟩, .string ⟨#[]⟩, .string ⟨#[]⟩, .string ⟨#[]⟩] 31)) (by assumption) ?_ ?_ ?_ ?_ ?_).mono ?_; go_keep; go_keep; go_keep; (first | assumption | exact (Below.refl _ _).drew | exact Below.alloc ((Below.refl _ _).drew) (by simp) _ | exact Below.alloc (by assumption) (by assumption) _); (first | assumption | (simp only [World.size_alloc, World.size_drew]; omega) | omega); rintro e w' ⟨rfl, hbl, s0, s1, s2, s3, s4, s5, s6, s7⟩; obtain ⟨hc, hf⟩ := bcell hbl; have hz := hbl.size; (try simp at hz); (try have hzz : w.heap.size + 1 + 1 < w'.heap.size := by omega)) | (go_at_call 27; refine (SK.out _ _ hs).mono ?_; rintro e w' ⟨rfl, rfl⟩))
    all_goals (go_wp2_with fail; go_meet; refine ⟨_, rfl, ?_⟩)
    · exact vcut_new w a b s n s6 s7
    · exact vcut_new w a b s n s6 s7
    · refine vcut_set w a b s n _ s6 ?_ ?_ ?_ ?_
      all_goals first | omega | (intro o ho; simp [*]; done) | (intro o ho; simp [*]; omega) | (intro o; simp [*]; done)
    · refine vcut_set w a b s n _ s6 ?_ ?_ ?_ ?_
      all_goals first | omega | (intro o ho; simp [*, third_cell]; done) | (intro o; simp [*, third_frozen]; done) | (intro o; simp [*, third_cell]; done)
  case rest =>
    obtain ⟨g, rfl, H⟩ := hcut
    obtain ⟨v0, v1, v2, v3, v4, fr, b2, b3, r, rf, lo, hi, bel⟩ := H
    obtain ⟨y0, q0⟩ := Option.isSome_iff_exists.1 (r 0 (by omega))
    obtain ⟨y1, q1⟩ := Option.isSome_iff_exists.1 (r 1 (by omega))
    obtain ⟨y2, q2⟩ := Option.isSome_iff_exists.1 (r 2 (by omega))
    obtain ⟨y3, q3⟩ := Option.isSome_iff_exists.1 (r 3 (by omega))
    obtain ⟨y4, q4⟩ := Option.isSome_iff_exists.1 (r 4 (by omega))
    have n1 : ¬ g = w.heap.size + 1 := by omega
    have n2 : ¬ w.heap.size + 1 = g := by omega
    have hr : w.heap.size + 1 < wc.heap.size := by omega
    clear r SK
    by_cases h0 : s % 5 = 0
    · have b0 : (((s : Int) % 5) == 0) = true := by rw [beq_iff_eq]; omega
      have HV : Hid (verV (verOf a b s n) = .agg #[.string (mk (dec a)), .string (mk (dec b)), .string (mk []), .string (mk (kindOf s)), .string (mk [])]) := by
        show _ = _
        unfold verOf
        rw [if_pos h0]
        simp [verV, kindOf, h0]
      clear h0 b3 SD
      go_wp2
      refine bodyPost_ret (v := .agg #[.string (mk (dec a)), .string (mk (dec b)), .string (mk []), .string (mk (kindOf s)), .string (mk [])]) (by simp [results, Try.results18, go_sem, *]) rfl ⟨by rw [HV.out], ?_⟩
      go_grown
    · have b0 : (((s : Int) % 5) == 0) = false := by rw [beq_eq_false_iff_ne]; omega
      by_cases h4 : s % 5 = 4
      · have b4 : (((s : Int) % 5) == 4) = true := by rw [beq_iff_eq]; omega
        have HV : Hid (verV (verOf a b s n) = .agg #[.string (mk (dec a)), .string (mk (dec b)), .string (mk (dec n)), .string (mk (kindOf s)), .string (mk [])]) := by
          show _ = _
          unfold verOf
          rw [if_neg h0, if_pos h4]
          simp [verV, kindOf, h4]
        clear h0 h4 SD
        go_wp2_with fail
        refine (sDec n wc hn).mono ?_
        rintro e w1 ⟨rfl, hbl⟩
        have hz : w.heap.size + 1 < w1.heap.size := by have := hbl.size; omega
        have hz2 : g < w1.heap.size := by have := hbl.size; omega
        have hb0 : Below w.heap.size w w1 := bel.trans (hbl.mono (by omega))
        obtain ⟨hc, hf⟩ := bcell hbl
        clear hbl bel
        go_wp2_with fail
        refine bodyPost_ret (v := .agg #[.string (mk (dec a)), .string (mk (dec b)), .string (mk (dec n)), .string (mk (kindOf s)), .string (mk [])]) (by simp [results, Try.results18, go_sem, *]) rfl ⟨by rw [HV.out], ?_⟩
        go_grown
      · have b4 : (((s : Int) % 5) == 4) = false := by rw [beq_eq_false_iff_ne]; omega
        have HV : Hid (verV (verOf a b s n) = .agg #[.string (mk (dec a)), .string (mk (dec b)), .string (mk []), .string (mk (kindOf s)), .string (mk (dec n))]) := by
          show _ = _
          unfold verOf
          rw [if_neg h0, if_neg h4]
          rfl
        clear h0 h4 SD
        go_wp2_with fail
        refine (sDec n wc hn).mono ?_
        rintro e w1 ⟨rfl, hbl⟩
        have hz : w.heap.size + 1 < w1.heap.size := by have := hbl.size; omega
        have hz2 : g < w1.heap.size := by have := hbl.size; omega
        have hb0 : Below w.heap.size w w1 := bel.trans (hbl.mono (by omega))
        obtain ⟨hc, hf⟩ := bcell hbl
        clear hbl bel
        go_wp2_with fail
        refine bodyPost_ret (v := .agg #[.string (mk (dec a)), .string (mk (dec b)), .string (mk []), .string (mk (kindOf s)), .string (mk (dec n))]) (by simp [results, Try.results18, go_sem, *]) rfl ⟨by rw [HV.out], ?_⟩
        go_grown
end Go.Proofs.Ytdkcpjlcpfkehaa
