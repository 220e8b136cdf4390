/- The walks of gover.DecInt and the reference's More and Bare: a decimal number less one, more one, and without zeros in front. -/
import Derived.Test.YtdkcpjlcpfkehaaBase
import Derived.Test.YtdkcpjlcpfkehaaPlain4
import Derived.Laws.IdiomStrings
namespace Go.Proofs.Ytdkcpjlcpfkehaa
open Go.RowKit Plain

/-- Block B holds the bytes l from its head on, and they may be written. -/
structure Row (B : Nat) (l : List UInt8) (wr : World) : Prop where
  cell : ∀ j (h : j < l.length), wr.cell? ⟨B, j, none⟩ = some (.int .u8 (l[j].toNat : Int))
  free : ∀ j, j < l.length → wr.frozen? ⟨B, j, none⟩ = false

theorem Row.set {B : Nat} {l : List UInt8} {wr : World} (h : Row B l wr) {j : Nat} (hj : j < l.length) (c : UInt8) : Row B (l.set j c) (wr.setCell ⟨B, j, none⟩ (.int .u8 (c.toNat : Int))) := by
  refine ⟨fun i hi => ?_, fun i hi => ?_⟩
  · have hi' : i < l.length := by simpa using hi
    by_cases e : j = i
    · subst e
      refine (World.cell?_setCell_same _ _ _ (h.cell j hj)).trans ?_
      simp
    · refine (World.cell?_setCell_other _ _ _ _ ?_).trans ((h.cell i hi').trans ?_)
      · intro e2; exact e (congrArg Addr.off e2)
      · simp [e]
  · rw [World.frozen?_setCell]
    exact h.free i (by simpa using hi)

/-- '[]byte(s)': a new row that holds the text's bytes. -/
theorem bytes_of (w : World) (s : ByteArray) : ∃ cap W1, s.size ≤ cap ∧ (convert 9 38 (.string s)).run Try.prog w = .ok (.slice (some ⟨w.heap.size, 0, none⟩) s.size cap) W1 ∧ Row w.heap.size s.data.toList W1 ∧ Below w.heap.size w W1 := by
  have hc := run_bytes_of_string (P := Try.prog) w 9 38 5 s Try.underlying9 Try.underlying38 Try.underlying5
  have hcap : s.size ≤ grownCap w s.size 0 5 := by
    exact grownCap_ge _ _ _ _
  refine ⟨_, _, hcap, hc, ⟨fun j hj => ?_, fun j hj => ?_⟩, ?_⟩
  · have hz := size_len s
    have := World.cell?_alloc_mark w.drew (bytesRow s (grownCap w s.size 0 5)) 5 ((bytesRow s (grownCap w s.size 0 5)).size, (bytesRow s (grownCap w s.size 0 5)).size + 1) j
    refine this.trans ?_
    rw [bytesRow_at s _ j (by simpa using hj), Array.getElem_toList]
  · have hz := size_len s
    have := World.frozen?_alloc_mark w.drew (bytesRow s (grownCap w s.size 0 5)) 5 (bytesRow s (grownCap w s.size 0 5)).size ((bytesRow s (grownCap w s.size 0 5)).size + 1) j
    refine this.trans ?_
    have hs : s.size ≤ (bytesRow s (grownCap w s.size 0 5)).size := by
      simp [bytesRow]
    simp
    omega
  · exact ((Below.refl _ _).drew).alloc (Nat.le_refl _) _

theorem addr_add (B i j : Nat) : (⟨B, i, none⟩ : Addr).add j = ⟨B, i + j, none⟩ := by
  unfold Addr.add; split <;> simp_all

/-- 'string(b)' of such a row. -/
theorem bytes_back {B : Nat} {l : List UInt8} {wr : World} (h : Row B l wr) {n : Nat} (hn : l.length = n) (cap : Nat) :
    (convert 38 9 (.slice (some ⟨B, 0, none⟩) n cap)).run Try.prog wr = .ok (.string (mk l)) wr := by
  subst hn
  exact run_convert_bytes_back (P := Try.prog) wr 38 9 5 ⟨B, 0, none⟩ cap l Try.underlying38 Try.underlying5 Try.underlying9 (fun j hj => by rw [addr_add, Nat.zero_add]; exact h.cell j hj)

theorem bytes_back1 {B : Nat} {l : List UInt8} {wr : World} (h : Row B l wr) {n : Nat} (hn : l.length = n + 1) (cap : Nat) :
    (convert 38 9 (.slice (some ⟨B, 1, none⟩) n cap)).run Try.prog wr = .ok (.string (mk l.tail)) wr := by
  rw [← List.drop_one]
  have e : (l.drop 1).length = n := by simp; omega
  subst e
  exact run_convert_bytes_back (P := Try.prog) wr 38 9 5 ⟨B, 1, none⟩ cap (l.drop 1) Try.underlying38 Try.underlying5 Try.underlying9 (fun j hj => by
    have hj' : 1 + j < l.length := by simp at hj; omega
    rw [addr_add, h.cell (1 + j) hj', List.getElem_drop])

theorem Row.put {B : Nat} {l l' : List UInt8} {wr : World} (h : Row B l wr) {j : Nat} (hj : j < l.length) {c : UInt8} {n : Int} (hn : n = (c.toNat : Int)) (hl : l.set j c = l') : Row B l' (wr.setCell ⟨B, j, none⟩ (.int .u8 n)) := by
  subst hn hl
  exact h.set hj c

set_option maxHeartbeats 1000000 in
theorem gDecInt_some (s : ByteArray) (p : List UInt8) (d : UInt8) (k : Nat) (w : World) (hs : s.size ≤ 140737488351232) (h : s.data.toList = p ++ d :: List.replicate k 48) (hd : 48 < d.toNat) :
    Calls Try.prog 23 #[.string s] w fun e w' => e = .returned (.string (mk (decOut p d k))) ∧ Below w.heap.size w w' := by
  have HZ : Hid (s.size = p.length + 1 + k) := by
    show s.size = _
    rw [size_len, h]; simp; omega
  obtain ⟨cap, W1, hcap, hconv, hrow, hb1⟩ := bytes_of w s
  have HR : Hid (Row w.heap.size (tailAt p d 48 57 k 0) W1) := by rw [tailAt_zero, ← h]; exact hrow
  have hd255 := d.toNat_lt
  clear hrow h
  go_enter Try.func23, Try.ntmps23
  go_wp2
  clear hconv
  go_loopw [4] (fun i wr => ∃ j m : Nat, j ≤ k ∧ Hid (m = p.length + (k - j)) ∧ i = .int .i64 m ∧ Hid (Row w.heap.size (tailAt p d 48 57 k j) wr) ∧ Hid (Below w.heap.size w wr)) (fun i _ => (intOf i).toNat)
  case atStart => exact ⟨0, p.length + k, Nat.zero_le _, by show _ = _; omega, congrArg (Value.int .i64) (by have := HZ.out; omega), HR, hb1⟩
  case round =>
    obtain ⟨j, m, hj, hm, rfl, hr, hb⟩ := hrel
    by_cases hlt : j < k
    · have hms : m < s.size := by have := HZ.out; have := hm.out; omega
      have hm0 : 0 < m := by have := hm.out; omega
      have hl : m < (tailAt p d 48 57 k j).length := by rw [tailAt_length _ _ _ _ (by omega)]; have := hm.out; omega
      have hc : wr.cell? ⟨w.heap.size, m, none⟩ = some (.int .u8 48) := by
        have h1 := hr.out.cell m hl
        rw [h1]
        have e := hm.out
        subst e
        rw [tailAt_get p d 48 57 hlt]
        rfl
      have hf := hr.out.free m hl
      have HS : Hid (Row w.heap.size (tailAt p d 48 57 k (j + 1)) (wr.setCell ⟨w.heap.size, m, none⟩ (.int .u8 57))) := hr.out.put hl rfl (by have e := hm.out; subst e; exact tailAt_set p d 48 57 hlt)
      have HB : Hid (Below w.heap.size w (wr.setCell ⟨w.heap.size, m, none⟩ (.int .u8 57))) := hb.out.setCell (Nat.le_refl _) _
      clear hl
      go_wp2
      go_roundw
      case rel => exact ⟨j + 1, m - 1, by omega, by show _ = _; have := hm.out; omega, congrArg (Value.int .i64) (by omega), HS, HB⟩
      case measure => simp [intOf]; omega
    · obtain rfl : j = k := by omega
      have hmp : Hid (m = p.length) := by show _ = _; have := hm.out; omega
      have hl : m < (tailAt p d 48 57 j j).length := by rw [tailAt_length _ _ _ _ (by omega)]; have := hmp.out; omega
      have hms : m < s.size := by have := HZ.out; have := hmp.out; omega
      have hc : wr.cell? ⟨w.heap.size, m, none⟩ = some (.int .u8 d.toNat) := by
        have h1 := hr.out.cell m hl
        rw [h1]
        have e := hmp.out
        subst e
        rw [tailAt_head p d 48 57 j]
      have hf := hr.out.free m hl
      have b48 : ((d.toNat : Int) == 48) = false := by simp; omega
      have hN : ((d.toNat : Int) - 1) = (((d - 1).toNat : Nat) : Int) := by rw [toNat_pred (by omega)]; omega
      have HS := Lib.hid (hr.out.put (c := d - 1) hl hN (by have e := hmp.out; subst e; exact tailAt_headSet p d 48 57 (d - 1) j))
      have HL : Hid ((p ++ (d - 1) :: List.replicate j 57).length = s.size) := by have := HZ.out; show _ = _; simp; omega
      have HB : Hid (Below w.heap.size w (wr.setCell ⟨w.heap.size, m, none⟩ (.int .u8 ((d.toNat : Int) - 1)))) := hb.out.setCell (Nat.le_refl _) _
      have HQ : Hid (decOut p d j = if p = [] ∧ d = 49 ∧ 0 < j then List.replicate j 57 else p ++ (d - 1) :: List.replicate j 57) := rfl
      clear hN hl hm
      by_cases hp : p = []
      · subst hp
        obtain rfl : m = 0 := hmp.out
        by_cases h49 : d = 49
        · by_cases h0 : 0 < j
          · have hs1 : 1 < s.size := by have := HZ.out; simp only [List.length_nil] at this; omega
            subst h49
            have hlen : (tailAt [] 49 48 57 j j).length = s.size - 1 + 1 := by rw [tailAt_length _ _ _ _ (Nat.le_refl _)]; have := HZ.out; omega
            have hback := bytes_back1 hr.out hlen (cap - 1)
            have HV : Hid ((tailAt [] 49 48 57 j j).tail = decOut [] 49 j) := by show _ = _; rw [tailAt_full, decOut_strip j h0]; simp
            clear hlen HQ HL HS hmp
            go_wp2
            go_ret
            exact ⟨ret_str (by rw [HV.out]), hb.out⟩
          · have hs1 : ¬ 1 < s.size := by have := HZ.out; simp only [List.length_nil] at this; omega
            have b49 : ((d.toNat : Int) == 49) = true := by rw [h49]; rfl
            have hback := bytes_back HS.out HL.out cap
            have HV : Hid (decOut [] d j = [] ++ (d - 1) :: List.replicate j 57) := decOut_keep (by omega)
            clear HQ HL HS hmp h49
            go_wp2
            go_ret
            exact ⟨ret_str (by rw [HV.out]; rfl), HB.out⟩
        · have b49 : ((d.toNat : Int) == 49) = false := by
            simp only [beq_eq_false_iff_ne]
            intro e
            exact h49 (UInt8.toNat_inj.1 (by simp; omega))
          have hback := bytes_back HS.out HL.out cap
          have HV : Hid (decOut [] d j = [] ++ (d - 1) :: List.replicate j 57) := decOut_keep (fun e => h49 e.2.1)
          clear HQ HL HS hmp h49
          go_wp2
          go_ret
          exact ⟨ret_str (by rw [HV.out]; rfl), HB.out⟩
      · have b0 : ((m : Int) == 0) = false := by
          have := hmp.out
          have := len_pos hp
          simp only [beq_eq_false_iff_ne]
          omega
        have hback := bytes_back HS.out HL.out cap
        have HV : Hid (decOut p d j = p ++ (d - 1) :: List.replicate j 57) := decOut_keep (fun e => hp e.1)
        clear HQ HL HS hmp hp
        go_wp2
        go_ret
        exact ⟨ret_str (by rw [HV.out]), HB.out⟩

set_option maxHeartbeats 1000000 in
theorem gDecInt_zero (s : ByteArray) (n : Nat) (w : World) (hs : s.size ≤ 140737488351232) (h : s.data.toList = List.replicate n 48) :
    Calls Try.prog 23 #[.string s] w fun e w' => e = .returned (.string ByteArray.empty) ∧ Below w.heap.size w w' := by
  have HZ : Hid (s.size = n) := by
    show s.size = _
    rw [size_len, h]; simp
  obtain ⟨cap, W1, hcap, hconv, hrow, hb1⟩ := bytes_of w s
  have HR : Hid (Row w.heap.size (tailZ 48 57 n 0) W1) := by rw [tailZ_zero, ← h]; exact hrow
  clear hrow h
  go_enter Try.func23, Try.ntmps23
  go_wp2
  clear hconv
  go_loopw [4] (fun i wr => ∃ (j : Nat) (m : Int), j ≤ n ∧ Hid (m = (n : Int) - 1 - (j : Int)) ∧ i = .int .i64 m ∧ Hid (Row w.heap.size (tailZ 48 57 n j) wr) ∧ Hid (Below w.heap.size w wr)) (fun i _ => (intOf i + 1).toNat)
  case atStart => exact ⟨0, (n : Int) - 1, Nat.zero_le _, by show _ = _; omega, congrArg (Value.int .i64) (by have := HZ.out; omega), HR, hb1⟩
  case round =>
    obtain ⟨j, m, hj, hm, rfl, hr, hb⟩ := hrel
    by_cases hlt : j < n
    · obtain ⟨q, rfl⟩ : ∃ q : Nat, m = q := ⟨n - 1 - j, by have := hm.out; omega⟩
      have hq : Hid (q = n - 1 - j) := by show _ = _; have := hm.out; omega
      have hms : q < s.size := by have := HZ.out; have := hq.out; omega
      have hl : q < (tailZ 48 57 n j).length := by rw [tailZ_length _ _ (by omega)]; have := hq.out; omega
      have hc : wr.cell? ⟨w.heap.size, q, none⟩ = some (.int .u8 48) := by
        have h1 := hr.out.cell q hl
        rw [h1]
        have e := hq.out
        subst e
        rw [tailZ_get 48 57 hlt]
        rfl
      have hf := hr.out.free q hl
      have HS : Hid (Row w.heap.size (tailZ 48 57 n (j + 1)) (wr.setCell ⟨w.heap.size, q, none⟩ (.int .u8 57))) := hr.out.put hl rfl (by have e := hq.out; subst e; exact tailZ_set 48 57 hlt)
      have HB : Hid (Below w.heap.size w (wr.setCell ⟨w.heap.size, q, none⟩ (.int .u8 57))) := hb.out.setCell (Nat.le_refl _) _
      clear hl
      go_wp2
      go_roundw
      case rel => exact ⟨j + 1, (q : Int) - 1, by omega, by show _ = _; have := hm.out; omega, rfl, HS, HB⟩
      case measure => simp [intOf]
    · have hneg : m < 0 := by have := hm.out; omega
      have hneg' : -1 ≤ m := by have := hm.out; omega
      clear hm hr
      go_wp2
      go_ret
      exact ⟨rfl, hb.out⟩

theorem iDecInt_some (s : ByteArray) (p : List UInt8) (d : UInt8) (k : Nat) (w : World) (hs : s.size ≤ 140737488351232) (h : s.data.toList = p ++ d :: List.replicate k 48) (hd : 48 < d.toNat) :
    Calls Try.prog 12 #[.string s] w fun e w' => e = .returned (.string (mk (decOut p d k))) ∧ Below w.heap.size w w' := by
  go_enter Try.func12, Try.ntmps12
  go_wp2_with fail
  refine (gDecInt_some s p d k _ hs h hd).mono ?_
  rintro e w' ⟨rfl, hb⟩
  go_wp2_with fail
  go_ret
  exact ⟨rfl, hb⟩

theorem iDecInt_zero (s : ByteArray) (n : Nat) (w : World) (hs : s.size ≤ 140737488351232) (h : s.data.toList = List.replicate n 48) :
    Calls Try.prog 12 #[.string s] w fun e w' => e = .returned (.string ByteArray.empty) ∧ Below w.heap.size w w' := by
  go_enter Try.func12, Try.ntmps12
  go_wp2_with fail
  refine (gDecInt_zero s n _ hs h).mono ?_
  rintro e w' ⟨rfl, hb⟩
  go_wp2_with fail
  go_ret
  exact ⟨rfl, hb⟩

set_option maxHeartbeats 1000000 in
theorem sMore_some (s : ByteArray) (p : List UInt8) (d : UInt8) (k : Nat) (w : World) (hs : s.size ≤ 140737488351232) (h : s.data.toList = p ++ d :: List.replicate k 57) (hd : d.toNat < 57) :
    Calls Try.prog 14 #[.string s] w fun e w' => e = .returned (.string (mk (p ++ (d + 1) :: List.replicate k 48))) ∧ Below w.heap.size w w' := by
  have HZ : Hid (s.size = p.length + 1 + k) := by
    show s.size = _
    rw [size_len, h]; simp; omega
  obtain ⟨cap, W1, hcap, hconv, hrow, hb1⟩ := bytes_of w s
  have HR : Hid (Row w.heap.size (tailAt p d 57 48 k 0) W1) := by rw [tailAt_zero, ← h]; exact hrow
  clear hrow h
  go_enter Try.func14, Try.ntmps14
  go_wp2
  clear hconv
  go_loopw [4] (fun i wr => ∃ j m : Nat, j ≤ k ∧ Hid (m = p.length + (k - j)) ∧ i = .int .i64 m ∧ Hid (Row w.heap.size (tailAt p d 57 48 k j) wr) ∧ Hid (Below w.heap.size w wr)) (fun i _ => (intOf i).toNat)
  case atStart => exact ⟨0, p.length + k, Nat.zero_le _, by show _ = _; omega, congrArg (Value.int .i64) (by have := HZ.out; omega), HR, hb1⟩
  case round =>
    obtain ⟨j, m, hj, hm, rfl, hr, hb⟩ := hrel
    by_cases hlt : j < k
    · have hms : m < s.size := by have := HZ.out; have := hm.out; omega
      have hm0 : 0 < m := by have := hm.out; omega
      have hl : m < (tailAt p d 57 48 k j).length := by rw [tailAt_length _ _ _ _ (by omega)]; have := hm.out; omega
      have hc : wr.cell? ⟨w.heap.size, m, none⟩ = some (.int .u8 57) := by
        have h1 := hr.out.cell m hl
        rw [h1]
        have e := hm.out
        subst e
        rw [tailAt_get p d 57 48 hlt]
        rfl
      have hf := hr.out.free m hl
      have HS : Hid (Row w.heap.size (tailAt p d 57 48 k (j + 1)) (wr.setCell ⟨w.heap.size, m, none⟩ (.int .u8 48))) := hr.out.put hl rfl (by have e := hm.out; subst e; exact tailAt_set p d 57 48 hlt)
      have HB : Hid (Below w.heap.size w (wr.setCell ⟨w.heap.size, m, none⟩ (.int .u8 48))) := hb.out.setCell (Nat.le_refl _) _
      clear hl
      go_wp2
      go_roundw
      case rel => exact ⟨j + 1, m - 1, by omega, by show _ = _; have := hm.out; omega, congrArg (Value.int .i64) (by omega), HS, HB⟩
      case measure => simp [intOf]; omega
    · obtain rfl : j = k := by omega
      have hmp : Hid (m = p.length) := by show _ = _; have := hm.out; omega
      have hl : m < (tailAt p d 57 48 j j).length := by rw [tailAt_length _ _ _ _ (by omega)]; have := hmp.out; omega
      have hms : m < s.size := by have := HZ.out; have := hmp.out; omega
      have hc : wr.cell? ⟨w.heap.size, m, none⟩ = some (.int .u8 d.toNat) := by
        have h1 := hr.out.cell m hl
        rw [h1]
        have e := hmp.out
        subst e
        rw [tailAt_head p d 57 48 j]
      have hf := hr.out.free m hl
      have hN : ((d.toNat : Int) + 1) = (((d + 1).toNat : Nat) : Int) := by rw [toNat_succ hd]; omega
      have HS := Lib.hid (hr.out.put (c := d + 1) hl hN (by have e := hmp.out; subst e; exact tailAt_headSet p d 57 48 (d + 1) j))
      have HL : Hid ((p ++ (d + 1) :: List.replicate j 48).length = s.size) := by have := HZ.out; show _ = _; simp; omega
      have HB : Hid (Below w.heap.size w (wr.setCell ⟨w.heap.size, m, none⟩ (.int .u8 ((d.toNat : Int) + 1)))) := hb.out.setCell (Nat.le_refl _) _
      have hback := bytes_back HS.out HL.out cap
      have hd' : (d.toNat : Int) < 57 := by omega
      clear hN hl hm HL HS hmp
      go_wp2
      go_ret
      exact ⟨rfl, HB.out⟩

set_option maxHeartbeats 1000000 in
theorem sMore_all (s : ByteArray) (n : Nat) (w : World) (hs : s.size ≤ 140737488351232) (h : s.data.toList = List.replicate n 57) :
    Calls Try.prog 14 #[.string s] w fun e w' => e = .returned (.string (mk (49 :: List.replicate n 48))) ∧ Below w.heap.size w w' := by
  have HZ : Hid (s.size = n) := by
    show s.size = _
    rw [size_len, h]; simp
  obtain ⟨cap, W1, hcap, hconv, hrow, hb1⟩ := bytes_of w s
  have HR : Hid (Row w.heap.size (tailZ 57 48 n 0) W1) := by rw [tailZ_zero, ← h]; exact hrow
  clear hrow h
  go_enter Try.func14, Try.ntmps14
  go_wp2
  clear hconv
  go_loopw [4] (fun i wr => ∃ (j : Nat) (m : Int), j ≤ n ∧ Hid (m = (n : Int) - 1 - (j : Int)) ∧ i = .int .i64 m ∧ Hid (Row w.heap.size (tailZ 57 48 n j) wr) ∧ Hid (Below w.heap.size w wr)) (fun i _ => (intOf i + 1).toNat)
  case atStart => exact ⟨0, (n : Int) - 1, Nat.zero_le _, by show _ = _; omega, congrArg (Value.int .i64) (by have := HZ.out; omega), HR, hb1⟩
  case round =>
    obtain ⟨j, m, hj, hm, rfl, hr, hb⟩ := hrel
    by_cases hlt : j < n
    · obtain ⟨q, rfl⟩ : ∃ q : Nat, m = q := ⟨n - 1 - j, by have := hm.out; omega⟩
      have hq : Hid (q = n - 1 - j) := by show _ = _; have := hm.out; omega
      have hms : q < s.size := by have := HZ.out; have := hq.out; omega
      have hl : q < (tailZ 57 48 n j).length := by rw [tailZ_length _ _ (by omega)]; have := hq.out; omega
      have hc : wr.cell? ⟨w.heap.size, q, none⟩ = some (.int .u8 57) := by
        have h1 := hr.out.cell q hl
        rw [h1]
        have e := hq.out
        subst e
        rw [tailZ_get 57 48 hlt]
        rfl
      have hf := hr.out.free q hl
      have HS : Hid (Row w.heap.size (tailZ 57 48 n (j + 1)) (wr.setCell ⟨w.heap.size, q, none⟩ (.int .u8 48))) := hr.out.put hl rfl (by have e := hq.out; subst e; exact tailZ_set 57 48 hlt)
      have HB : Hid (Below w.heap.size w (wr.setCell ⟨w.heap.size, q, none⟩ (.int .u8 48))) := hb.out.setCell (Nat.le_refl _) _
      clear hl
      go_wp2
      go_roundw
      case rel => exact ⟨j + 1, (q : Int) - 1, by omega, by show _ = _; have := hm.out; omega, rfl, HS, HB⟩
      case measure => simp [intOf]
    · obtain rfl : j = n := by omega
      have hneg : m < 0 := by have := hm.out; omega
      have HL : Hid ((tailZ 57 48 j j).length = s.size) := by show _ = _; rw [tailZ_length _ _ (Nat.le_refl _)]; exact HZ.out.symm
      have hback := bytes_back hr.out HL.out cap
      have HV : Hid (tailZ 57 48 j j = List.replicate j 48) := tailZ_full _ _ _
      have hsz : (mk (tailZ 57 48 j j)).size ≤ 140737488351232 := by rw [mk_size, HL.out]; exact hs
      clear hm hr HL
      go_wp2
      go_ret
      exact ⟨ret_str (by rw [HV.out]; rfl), hb.out⟩

set_option maxHeartbeats 400000 in
theorem sBare_id (s : ByteArray) (w : World) (hs : s.size ≤ 140737488351232) (h : s.size ≤ 1 ∨ ∃ h1 : 1 < s.size, (s[0]'(Nat.lt_trans Nat.zero_lt_one h1)).toNat ≠ 48) :
    Calls Try.prog 13 #[.string s] w fun e w' => e = .returned (.string s) ∧ w = w' := by
  have HC := Lib.hid h
  clear h
  go_enter Try.func13, Try.ntmps13
  go_wp2
  go_loop [0] (fun x => x = .string s) (fun _ => 0)
  case atStart => rfl
  case round =>
    subst hrel
    rcases HC.out with h1 | ⟨h1, h2⟩
    · have b1 : ¬ 1 < s.size := by omega
      clear HC h1
      go_wp2
      go_ret
      exact ⟨rfl, rfl⟩
    · have b2 : ((s[0].toNat : Int) == 48) = false := by simp; omega
      clear HC h2
      go_wp2
      go_ret
      exact ⟨rfl, rfl⟩
end Go.Proofs.Ytdkcpjlcpfkehaa
