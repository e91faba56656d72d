/-
  (integer).add: the walk of the long road.
-/
import Derived.Test.Qxb6604011aDoorJoin
import Derived.Lib.SlBytesRow
import Derived.Lib.ItoaLen
import Derived.Deep.RegionWith
namespace Go.Proofs.Qxb6604011aDoor
open Go.RowKit
open Go.Lib (itoa trimLeftB bytesWorld bytesWorld_at_new bytesCells Bytes)

theorem Row.set {g : Nat} {L : List UInt8} {w : World} (h : Row g L w) {j : Nat} (hj : j < L.length) (y : UInt8) {v : Int} (hv : v = y.toNat) : Row g (L.set j y) (w.setCell ⟨g, j, none⟩ (.int .u8 v)) := by
  subst hv
  constructor
  · intro i hi
    rw [List.length_set] at hi
    by_cases e : i = j
    · subst e
      rw [World.cell?_setCell_same _ _ _ (h.cell i hi), List.getD_eq_getElem?_getD, List.getElem?_set_self hi]; rfl
    · rw [World.cell?_setCell_other w ⟨g, j, none⟩ ⟨g, i, none⟩ _ (fun h => e (by injection h; omega)), h.cell i hi, List.getD_eq_getElem?_getD, List.getD_eq_getElem?_getD, List.getElem?_set_ne (by omega)]
  · intro i hi
    rw [List.length_set] at hi
    rw [World.frozen?_setCell]; exact h.free i hi

theorem Row.bytes_of {g : Nat} {L : List UInt8} {w : World} (h : Row g L w) : Bytes w g 0 ⟨L.toArray⟩ := by
  intro i hi
  have hi' : i < L.length := by have : (ByteArray.mk L.toArray).size = L.length := rfl; omega
  rw [Nat.zero_add, h.cell i hi', getD_of_lt hi']; rfl

/-- 'string(out)' -/
theorem Row.str {g : Nat} {L : List UInt8} {w : World} (h : Row g L w) {N : Nat} (hN : L.length = N) (cap : Nat) (q : Nat) :
    (convert 47 9 (.slice (some ⟨g, 0, none⟩) N cap)).run Tryd.prog (w.drewN q) = .ok (.string ⟨L.toArray⟩) (w.drewN q) := by
  subst hN
  exact Go.Lib.run_convert_whole (P := Tryd.prog) (w.drewN q) 47 5 9 Tryd.underlying47 Tryd.underlying5 Tryd.underlying9 g 0 ⟨L.toArray⟩ ((Row.bytes_of h).drewN q) cap

theorem Row.below {g B : Nat} {L : List UInt8} {w w' : World} (h : Row g L w) (hb : Below B w w') (hg : g < B) : Row g L w' :=
  ⟨fun j hj => (hb.cell (p := ⟨g, j, none⟩) hg).trans (h.cell j hj), fun j hj => (hb.frozen (p := ⟨g, j, none⟩) hg).trans (h.free j hj)⟩

theorem Row.spare (w : World) (m : ByteArray) : ∀ j, m.size ≤ j → j < grownCap w m.size 0 5 → ((bytesWorld w 5 m).cell? ⟨w.heap.size, j, none⟩).isSome = true ∧ (bytesWorld w 5 m).frozen? ⟨w.heap.size, j, none⟩ = false := by
  intro j h1 h2
  have hsz : j < (bytesCells w 5 m).size := by simp [bytesCells]; omega
  constructor
  · simp [World.cell?, bytesWorld_at_new, hsz]
  · simp [World.frozen?, bytesWorld_at_new]
    omega

/-- what the two boxes of the call hold in every later world -/
theorem boxes {w w1 wz : World} {b : Bool} {m : ByteArray}
    (hb : Below ((w.alloc (.cells #[.bool b, .string m] 29)).alloc (.cells #[.bool false, .string ⟨#[]⟩] 29)).heap.size ((w.alloc (.cells #[.bool b, .string m] 29)).alloc (.cells #[.bool false, .string ⟨#[]⟩] 29)) w1)
    (hz : Below w1.heap.size w1 wz) :
    wz.cell? ⟨w.heap.size, 0, none⟩ = some (.bool b) ∧ wz.cell? ⟨w.heap.size + 1, 0, none⟩ = some (.bool false) ∧ wz.cell? ⟨w.heap.size + 1, 1, none⟩ = some (.string ⟨#[]⟩) ∧
      wz.frozen? ⟨w.heap.size + 1, 0, none⟩ = false ∧ wz.frozen? ⟨w.heap.size + 1, 1, none⟩ = false := by
  have hs := hb.size
  simp at hs
  obtain ⟨hc, hf⟩ := bcell hb
  obtain ⟨hcr, hfr⟩ := bcell hz
  refine ⟨?_, ?_, ?_, ?_, ?_⟩
  · rw [hcr _ _ (by omega), hc _ _ (by simp; omega)]; simp
  · rw [hcr _ _ (by omega), hc _ _ (by simp)]; simp
  · rw [hcr _ _ (by omega), hc _ _ (by simp)]; simp
  · rw [hfr _ _ (by omega), hf _ _ (by simp)]; simp
  · rw [hfr _ _ (by omega), hf _ _ (by simp)]; simp

theorem byte_back {g : Int} (h0 : 0 ≤ g) (h9 : g ≤ 9) : (48 + g : Int) = ((UInt8.ofNat (48 + g).toNat).toNat : Int) := by
  rw [UInt8.toNat_ofNat']; omega

set_option maxHeartbeats 1000000 in
theorem add_big_pos (m : ByteArray) (n : Int) (w : World) (hp : Pow w) (hm : 18 < m.size) (hmx : m.size ≤ 1048577) (T : Int) (hT : Hid (0 < T)) (hI : Inv T m.size n m.size m.data.toList) :
    Calls Tryd.prog 18 #[.agg #[.bool false, .string m], .int .i64 n] w fun e w' => e = .returned (.agg #[.bool false, .string ⟨(cd T.toNat).toArray⟩]) ∧ Below w.heap.size w w' := by
  have c1 := fun w => int64_big false m w hm
  have hcv := fun w => Lib.run_convert_string_bytes (P := Tryd.prog) w 9 47 5 m Tryd.underlying9 Tryd.underlying47 Tryd.underlying5
  go_enter Tryd.func18, Tryd.ntmps18
  go_wp2_with fail
  refine (c1 _).mono ?_
  rintro e w1 ⟨rfl, hb⟩
  obtain ⟨hc, hf⟩ := bcell hb
  have hz : w.heap.size + 1 < w1.heap.size := by have := hb.size; simp at this; omega
  have hp1 : Pow w1 := (hp.below (((Below.refl _ _).alloc (Nat.le_refl _) _).alloc (by simp) _) (Nat.le_refl _)).below hb (Nat.le_refl _)
  have b1 : Below w.heap.size w w1 := (((Below.refl _ _).alloc (Nat.le_refl _) _).alloc (by simp) _).trans (hb.mono (by simp; omega))
  go_wp2
  generalize grownCap w1 m.size 0 5 = cp
  go_loopw [7, 9] (fun cv iv wr => ∃ (c : Int) (k : Nat) (L : List UInt8), cv = .int .i64 c ∧ iv = .int .i64 ((k : Int) - 1) ∧ Inv T m.size c k L ∧ Row w1.heap.size L wr ∧ Below w1.heap.size w1 wr ∧ w1.heap.size < wr.heap.size)
    (fun _ iv _ => (RowKit.intOf iv + 1).toNat)
  case atStart => exact ⟨_, m.size, m.data.toList, rfl, rfl, hI, Row.bytes w1 m, Go.Joins.below_bytesWorld _ _ _ _ (Nat.le_refl _), by rw [Go.Lib.bytesWorld_size]; omega⟩
  case round =>
    obtain ⟨c, k, L, rfl, rfl, hinv, hrow, hbr, hlt⟩ := hrel
    clear hI hcv
    by_cases hgo : 1 ≤ k ∧ c ≠ 0
    · obtain ⟨hk1, hc0⟩ := hgo
      obtain ⟨j, rfl⟩ : ∃ j, k = j + 1 := ⟨k - 1, by omega⟩
      have hc0' : (c != 0) = true := by simpa using hc0
      clear hc0 hk1
      have ej : ((j + 1 : Nat) : Int) - 1 = (j : Int) := by omega
      rw [ej]
      clear ej
      have hjN : j < m.size := hinv.le
      have hjL : j < L.length := by rw [hinv.len]; exact hjN
      have hcj := hrow.cell j hjL
      have hfj := hrow.free j hjL
      have hxd : 48 ≤ (L.getD j 0).toNat ∧ (L.getD j 0).toNat ≤ 57 := by
        rw [getD_of_lt hjL]; exact dg_iff.1 (List.all_eq_true.1 hinv.dig _ (List.getElem_mem _))
      generalize hx : L.getD j 0 = x at hcj hxd
      obtain ⟨hx1, hx2⟩ := hxd
      have HX : Hid (L.getD j 0 = x) := hx
      have HJ : Hid (j < L.length) := hjL
      clear hx hjL
      have hr1 := tmod_lo c
      have hr2 := tmod_hi c
      go_wp2
      · have hq := tdiv_bnd c hinv.lo hinv.hi
        have hsum := tdiv_sum c
        have ew : wrap64 (wrap64 (c.tdiv 10) - 1) = c.tdiv 10 - 1 := by rw [wrap64_small (n := c.tdiv 10) (by omega) (by omega), wrap64_small (by omega) (by omega)]
        rw [ew]
        refine ⟨⟨_, j, L.set j (UInt8.ofNat (48 + (x.toNat - 48 + c.tmod 10 + 10)).toNat), rfl, rfl, hinv.step _ _ (by omega) (by omega) (by rw [HX.out]; omega) (by omega) (by omega), hrow.set HJ.out _ ?_, hbr.setCell (Nat.le_refl _) _, by simpa using hlt⟩, ?_⟩
        · exact byte_back (by omega) (by omega)
        · simp [RowKit.intOf]
      · have hq := tdiv_bnd c hinv.lo hinv.hi
        have hsum := tdiv_sum c
        have ew : wrap64 (wrap64 (c.tdiv 10) + 1) = c.tdiv 10 + 1 := by rw [wrap64_small (n := c.tdiv 10) (by omega) (by omega), wrap64_small (by omega) (by omega)]
        rw [ew]
        refine ⟨⟨_, j, L.set j (UInt8.ofNat (48 + (x.toNat - 48 + c.tmod 10 - 10)).toNat), rfl, rfl, hinv.step _ _ (by omega) (by omega) (by rw [HX.out]; omega) (by omega) (by omega), hrow.set HJ.out _ ?_, hbr.setCell (Nat.le_refl _) _, by simpa using hlt⟩, ?_⟩
        · exact byte_back (by omega) (by omega)
        · simp [RowKit.intOf]
      · have hq := tdiv_bnd c hinv.lo hinv.hi
        have hsum := tdiv_sum c
        have ew : wrap64 (c.tdiv 10) = c.tdiv 10 := wrap64_small (n := c.tdiv 10) (by omega) (by omega)
        rw [ew]
        refine ⟨⟨_, j, L.set j (UInt8.ofNat (48 + (x.toNat - 48 + c.tmod 10)).toNat), rfl, rfl, hinv.step _ _ (by omega) (by omega) (by rw [HX.out]; omega) (by omega) (by omega), hrow.set HJ.out _ ?_, hbr.setCell (Nat.le_refl _) _, by simpa using hlt⟩, ?_⟩
        · exact byte_back (by omega) (by omega)
        · simp [RowKit.intOf]
    · by_cases hcp : 0 < c
      · have hk0 : k = 0 := Classical.byContradiction fun h => hgo ⟨by omega, by omega⟩
        subst hk0
        clear hgo
        have HD : Hid (trimLeftB (itoa c ++ L) 48 = cd T.toNat) := hinv.doneB hcp
        have c31 := formatInt c (by have := hinv.lo; omega) (by have := hinv.hi; omega) wr (hp1.below hbr (Nat.le_refl _))
        have hil := Go.Lib.itoa_length_le c (by have := hinv.lo; omega) (by have := hinv.hi; omega)
        generalize itoa c = I at HD c31 hil
        have hcv := fun w => Lib.run_convert_string_bytes (P := Tryd.prog) w 9 47 5 ⟨I.toArray⟩ Tryd.underlying9 Tryd.underlying47 Tryd.underlying5
        have hIs : (⟨I.toArray⟩ : ByteArray).size = I.length := rfl
        have HL : Hid (L.length = m.size) := hinv.len
        have e0 : ((0 : Nat) : Int) - 1 = -1 := rfl
        rw [e0]
        go_wp2_with fail
        refine c31.mono ?_
        rintro e w2 ⟨rfl, hb2⟩
        have hz2 : wr.heap.size ≤ w2.heap.size := hb2.size
        have hrow2 : Row w1.heap.size L w2 := hrow.below hb2 hlt
        have hb3 : Below w1.heap.size w1 w2 := hbr.trans (hb2.mono (by omega))
        go_wp2_with (at_builtin; refine wpList_join _ rfl (.tmp 81) (.tmp 82) rfl w1.heap.size w2.heap.size I.length (grownCap w2 I.length 0 5) w1.heap.size m.size cp I L rfl rfl rfl HL.out ?r1 ?r2 ?hB ?hBw ?hsp ?hsz ?K)
        case r1 => exact Row.bytes w2 ⟨I.toArray⟩
        case r2 => exact hrow2.below (Go.Joins.below_bytesWorld _ _ _ _ (Nat.le_refl _)) (by omega)
        case hB => omega
        case hBw => rw [Go.Lib.bytesWorld_size]; omega
        case hsp => exact Row.spare w2 ⟨I.toArray⟩
        case hsz => omega
        case K =>
        intro g cap w3 hrow3 hb4
        have hb5 : Below w1.heap.size w1 w3 := (hb3.trans (Go.Joins.below_bytesWorld _ _ _ _ (by omega))).trans hb4
        obtain ⟨hx0, hy0, hy1, hg0, hg1⟩ := boxes hb hb5
        have b2 : Below w.heap.size w w3 := b1.trans (hb5.mono (by omega))
        have hs0 : ∀ cap, (convert 47 9 (.slice (some ⟨g, 0, none⟩) (I.length + m.size) cap)).run Tryd.prog w3 = .ok (.string ⟨(I ++ L).toArray⟩) w3 := fun cap => hrow3.str (by rw [List.length_append, HL.out]) cap 0
        have hs1 : ∀ cap, (convert 47 9 (.slice (some ⟨g, 0, none⟩) (I.length + m.size) cap)).run Tryd.prog w3.drew = .ok (.string ⟨(I ++ L).toArray⟩) w3.drew := fun cap => hrow3.str (by rw [List.length_append, HL.out]) cap 1
        generalize I ++ L = IL at HD hs0 hs1 hrow3
        clear hrow hrow2 hc hf hcv c31
        go_wp2_with fail
        all_goals
          go_region_with (go_at_call 28; refine (trimZeros _ _).mono ?_; rintro e w' ⟨rfl, rfl⟩)
        all_goals
          go_wp2
          refine bodyPost_ret (v := .agg #[.bool false, .string ⟨(cd T.toNat).toArray⟩]) ?_ rfl ⟨rfl, ?_⟩
          · rw [← HD.out]
            simp [results, Tryd.results18, go_sem, hy0, hy1]
          · repeat (first | exact b2 | refine Below.setCell ?_ (by simp) _ | refine Below.drew ?_)
      · have hc0 : c = 0 := by
          by_cases hk : k = 0
          · subst hk; have := hinv.nonneg hT.out; omega
          · exact Classical.byContradiction fun h => hgo ⟨by omega, h⟩
        subst hc0
        clear hgo hcp
        obtain ⟨hx0, hy0, hy1, hg0, hg1⟩ := boxes hb hbr
        have b2 : Below w.heap.size w wr := b1.trans (hbr.mono (by omega))
        have HD : Hid (trimLeftB L 48 = cd T.toNat) := hinv.done0
        have hs0 : ∀ cap, (convert 47 9 (.slice (some ⟨w1.heap.size, 0, none⟩) m.size cap)).run Tryd.prog wr = .ok (.string ⟨L.toArray⟩) wr := fun cap => hrow.str hinv.len cap 0
        have hs1 : ∀ cap, (convert 47 9 (.slice (some ⟨w1.heap.size, 0, none⟩) m.size cap)).run Tryd.prog wr.drew = .ok (.string ⟨L.toArray⟩) wr.drew := fun cap => hrow.str hinv.len cap 1
        obtain ⟨i, hi, hi2⟩ : ∃ i : Int, (k : Int) - 1 = i ∧ -1 ≤ i := ⟨_, rfl, by omega⟩
        rw [hi]
        clear hi hc hf
        go_wp2_with fail
        all_goals
          go_region_with (go_at_call 28; refine (trimZeros _ _).mono ?_; rintro e w' ⟨rfl, rfl⟩)
        all_goals
          go_wp2
          refine bodyPost_ret (v := .agg #[.bool false, .string ⟨(cd T.toNat).toArray⟩]) ?_ rfl ⟨rfl, ?_⟩
          · rw [← HD.out]
            simp [results, Tryd.results18, go_sem, hy0, hy1]
          · repeat (first | exact b2 | refine Below.setCell ?_ (by simp) _ | refine Below.drew ?_)
set_option maxHeartbeats 1000000 in
theorem add_big_neg (m : ByteArray) (n : Int) (w : World) (hp : Pow w) (hm : 18 < m.size) (hmx : m.size ≤ 1048577) (T : Int) (hT : Hid (0 < T)) (hI : Inv T m.size (wrap64 (-n)) m.size m.data.toList) :
    Calls Tryd.prog 18 #[.agg #[.bool true, .string m], .int .i64 n] w fun e w' => e = .returned (.agg #[.bool true, .string ⟨(cd T.toNat).toArray⟩]) ∧ Below w.heap.size w w' := by
  have c1 := fun w => int64_big true m w hm
  have hcv := fun w => Lib.run_convert_string_bytes (P := Tryd.prog) w 9 47 5 m Tryd.underlying9 Tryd.underlying47 Tryd.underlying5
  go_enter Tryd.func18, Tryd.ntmps18
  go_wp2_with fail
  refine (c1 _).mono ?_
  rintro e w1 ⟨rfl, hb⟩
  obtain ⟨hc, hf⟩ := bcell hb
  have hz : w.heap.size + 1 < w1.heap.size := by have := hb.size; simp at this; omega
  have hp1 : Pow w1 := (hp.below (((Below.refl _ _).alloc (Nat.le_refl _) _).alloc (by simp) _) (Nat.le_refl _)).below hb (Nat.le_refl _)
  have b1 : Below w.heap.size w w1 := (((Below.refl _ _).alloc (Nat.le_refl _) _).alloc (by simp) _).trans (hb.mono (by simp; omega))
  go_wp2
  generalize grownCap w1 m.size 0 5 = cp
  go_loopw [7, 9] (fun cv iv wr => ∃ (c : Int) (k : Nat) (L : List UInt8), cv = .int .i64 c ∧ iv = .int .i64 ((k : Int) - 1) ∧ Inv T m.size c k L ∧ Row w1.heap.size L wr ∧ Below w1.heap.size w1 wr ∧ w1.heap.size < wr.heap.size)
    (fun _ iv _ => (RowKit.intOf iv + 1).toNat)
  case atStart => exact ⟨_, m.size, m.data.toList, rfl, rfl, hI, Row.bytes w1 m, Go.Joins.below_bytesWorld _ _ _ _ (Nat.le_refl _), by rw [Go.Lib.bytesWorld_size]; omega⟩
  case round =>
    obtain ⟨c, k, L, rfl, rfl, hinv, hrow, hbr, hlt⟩ := hrel
    clear hI hcv
    by_cases hgo : 1 ≤ k ∧ c ≠ 0
    · obtain ⟨hk1, hc0⟩ := hgo
      obtain ⟨j, rfl⟩ : ∃ j, k = j + 1 := ⟨k - 1, by omega⟩
      have hc0' : (c != 0) = true := by simpa using hc0
      clear hc0 hk1
      have ej : ((j + 1 : Nat) : Int) - 1 = (j : Int) := by omega
      rw [ej]
      clear ej
      have hjN : j < m.size := hinv.le
      have hjL : j < L.length := by rw [hinv.len]; exact hjN
      have hcj := hrow.cell j hjL
      have hfj := hrow.free j hjL
      have hxd : 48 ≤ (L.getD j 0).toNat ∧ (L.getD j 0).toNat ≤ 57 := by
        rw [getD_of_lt hjL]; exact dg_iff.1 (List.all_eq_true.1 hinv.dig _ (List.getElem_mem _))
      generalize hx : L.getD j 0 = x at hcj hxd
      obtain ⟨hx1, hx2⟩ := hxd
      have HX : Hid (L.getD j 0 = x) := hx
      have HJ : Hid (j < L.length) := hjL
      clear hx hjL
      have hr1 := tmod_lo c
      have hr2 := tmod_hi c
      go_wp2
      · have hq := tdiv_bnd c hinv.lo hinv.hi
        have hsum := tdiv_sum c
        have ew : wrap64 (wrap64 (c.tdiv 10) - 1) = c.tdiv 10 - 1 := by rw [wrap64_small (n := c.tdiv 10) (by omega) (by omega), wrap64_small (by omega) (by omega)]
        rw [ew]
        refine ⟨⟨_, j, L.set j (UInt8.ofNat (48 + (x.toNat - 48 + c.tmod 10 + 10)).toNat), rfl, rfl, hinv.step _ _ (by omega) (by omega) (by rw [HX.out]; omega) (by omega) (by omega), hrow.set HJ.out _ ?_, hbr.setCell (Nat.le_refl _) _, by simpa using hlt⟩, ?_⟩
        · exact byte_back (by omega) (by omega)
        · simp [RowKit.intOf]
      · have hq := tdiv_bnd c hinv.lo hinv.hi
        have hsum := tdiv_sum c
        have ew : wrap64 (wrap64 (c.tdiv 10) + 1) = c.tdiv 10 + 1 := by rw [wrap64_small (n := c.tdiv 10) (by omega) (by omega), wrap64_small (by omega) (by omega)]
        rw [ew]
        refine ⟨⟨_, j, L.set j (UInt8.ofNat (48 + (x.toNat - 48 + c.tmod 10 - 10)).toNat), rfl, rfl, hinv.step _ _ (by omega) (by omega) (by rw [HX.out]; omega) (by omega) (by omega), hrow.set HJ.out _ ?_, hbr.setCell (Nat.le_refl _) _, by simpa using hlt⟩, ?_⟩
        · exact byte_back (by omega) (by omega)
        · simp [RowKit.intOf]
      · have hq := tdiv_bnd c hinv.lo hinv.hi
        have hsum := tdiv_sum c
        have ew : wrap64 (c.tdiv 10) = c.tdiv 10 := wrap64_small (n := c.tdiv 10) (by omega) (by omega)
        rw [ew]
        refine ⟨⟨_, j, L.set j (UInt8.ofNat (48 + (x.toNat - 48 + c.tmod 10)).toNat), rfl, rfl, hinv.step _ _ (by omega) (by omega) (by rw [HX.out]; omega) (by omega) (by omega), hrow.set HJ.out _ ?_, hbr.setCell (Nat.le_refl _) _, by simpa using hlt⟩, ?_⟩
        · exact byte_back (by omega) (by omega)
        · simp [RowKit.intOf]
    · by_cases hcp : 0 < c
      · have hk0 : k = 0 := Classical.byContradiction fun h => hgo ⟨by omega, by omega⟩
        subst hk0
        clear hgo
        have HD : Hid (trimLeftB (itoa c ++ L) 48 = cd T.toNat) := hinv.doneB hcp
        have c31 := formatInt c (by have := hinv.lo; omega) (by have := hinv.hi; omega) wr (hp1.below hbr (Nat.le_refl _))
        have hil := Go.Lib.itoa_length_le c (by have := hinv.lo; omega) (by have := hinv.hi; omega)
        generalize itoa c = I at HD c31 hil
        have hcv := fun w => Lib.run_convert_string_bytes (P := Tryd.prog) w 9 47 5 ⟨I.toArray⟩ Tryd.underlying9 Tryd.underlying47 Tryd.underlying5
        have hIs : (⟨I.toArray⟩ : ByteArray).size = I.length := rfl
        have HL : Hid (L.length = m.size) := hinv.len
        have e0 : ((0 : Nat) : Int) - 1 = -1 := rfl
        rw [e0]
        go_wp2_with fail
        refine c31.mono ?_
        rintro e w2 ⟨rfl, hb2⟩
        have hz2 : wr.heap.size ≤ w2.heap.size := hb2.size
        have hrow2 : Row w1.heap.size L w2 := hrow.below hb2 hlt
        have hb3 : Below w1.heap.size w1 w2 := hbr.trans (hb2.mono (by omega))
        go_wp2_with (at_builtin; refine wpList_join _ rfl (.tmp 81) (.tmp 82) rfl w1.heap.size w2.heap.size I.length (grownCap w2 I.length 0 5) w1.heap.size m.size cp I L rfl rfl rfl HL.out ?r1 ?r2 ?hB ?hBw ?hsp ?hsz ?K)
        case r1 => exact Row.bytes w2 ⟨I.toArray⟩
        case r2 => exact hrow2.below (Go.Joins.below_bytesWorld _ _ _ _ (Nat.le_refl _)) (by omega)
        case hB => omega
        case hBw => rw [Go.Lib.bytesWorld_size]; omega
        case hsp => exact Row.spare w2 ⟨I.toArray⟩
        case hsz => omega
        case K =>
        intro g cap w3 hrow3 hb4
        have hb5 : Below w1.heap.size w1 w3 := (hb3.trans (Go.Joins.below_bytesWorld _ _ _ _ (by omega))).trans hb4
        obtain ⟨hx0, hy0, hy1, hg0, hg1⟩ := boxes hb hb5
        have b2 : Below w.heap.size w w3 := b1.trans (hb5.mono (by omega))
        have hs0 : ∀ cap, (convert 47 9 (.slice (some ⟨g, 0, none⟩) (I.length + m.size) cap)).run Tryd.prog w3 = .ok (.string ⟨(I ++ L).toArray⟩) w3 := fun cap => hrow3.str (by rw [List.length_append, HL.out]) cap 0
        have hs1 : ∀ cap, (convert 47 9 (.slice (some ⟨g, 0, none⟩) (I.length + m.size) cap)).run Tryd.prog w3.drew = .ok (.string ⟨(I ++ L).toArray⟩) w3.drew := fun cap => hrow3.str (by rw [List.length_append, HL.out]) cap 1
        generalize I ++ L = IL at HD hs0 hs1 hrow3
        clear hrow hrow2 hc hf hcv c31
        go_wp2_with fail
        all_goals
          go_region_with (go_at_call 28; refine (trimZeros _ _).mono ?_; rintro e w' ⟨rfl, rfl⟩)
        all_goals
          go_wp2
          refine bodyPost_ret (v := .agg #[.bool true, .string ⟨(cd T.toNat).toArray⟩]) ?_ rfl ⟨rfl, ?_⟩
          · rw [← HD.out]
            simp [results, Tryd.results18, go_sem, hy0, hy1]
          · repeat (first | exact b2 | refine Below.setCell ?_ (by simp) _ | refine Below.drew ?_)
      · have hc0 : c = 0 := by
          by_cases hk : k = 0
          · subst hk; have := hinv.nonneg hT.out; omega
          · exact Classical.byContradiction fun h => hgo ⟨by omega, h⟩
        subst hc0
        clear hgo hcp
        obtain ⟨hx0, hy0, hy1, hg0, hg1⟩ := boxes hb hbr
        have b2 : Below w.heap.size w wr := b1.trans (hbr.mono (by omega))
        have HD : Hid (trimLeftB L 48 = cd T.toNat) := hinv.done0
        have hs0 : ∀ cap, (convert 47 9 (.slice (some ⟨w1.heap.size, 0, none⟩) m.size cap)).run Tryd.prog wr = .ok (.string ⟨L.toArray⟩) wr := fun cap => hrow.str hinv.len cap 0
        have hs1 : ∀ cap, (convert 47 9 (.slice (some ⟨w1.heap.size, 0, none⟩) m.size cap)).run Tryd.prog wr.drew = .ok (.string ⟨L.toArray⟩) wr.drew := fun cap => hrow.str hinv.len cap 1
        obtain ⟨i, hi, hi2⟩ : ∃ i : Int, (k : Int) - 1 = i ∧ -1 ≤ i := ⟨_, rfl, by omega⟩
        rw [hi]
        clear hi hc hf
        go_wp2_with fail
        all_goals
          go_region_with (go_at_call 28; refine (trimZeros _ _).mono ?_; rintro e w' ⟨rfl, rfl⟩)
        all_goals
          go_wp2
          refine bodyPost_ret (v := .agg #[.bool true, .string ⟨(cd T.toNat).toArray⟩]) ?_ rfl ⟨rfl, ?_⟩
          · rw [← HD.out]
            simp [results, Tryd.results18, go_sem, hy0, hy1]
          · repeat (first | exact b2 | refine Below.setCell ?_ (by simp) _ | refine Below.drew ?_)
end Go.Proofs.Qxb6604011aDoor
