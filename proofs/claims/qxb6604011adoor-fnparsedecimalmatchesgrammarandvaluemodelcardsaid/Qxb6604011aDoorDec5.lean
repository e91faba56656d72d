import Derived.Test.Qxb6604011aDoorDec2
import Derived.Test.Qxb6604011aDoorDec4
import Derived.Deep.DeepCutAuto
import Derived.Sort.AtCall
namespace Go.Proofs.Qxb6604011aDoor
open Go.RowKit Go.Lib

def zero4 : Array Value := #[.int .i64 0, .string ⟨#[]⟩, .bool false, .string ⟨#[]⟩]
/-- the world behind the two decimals that parseDecimal lays -/
def two (w : World) : World := (w.alloc (.cells #[.int .i64 0, .string ⟨#[]⟩, .bool false, .string ⟨#[]⟩] 31)).alloc (.cells #[.int .i64 0, .string ⟨#[]⟩, .bool false, .string ⟨#[]⟩] 31)

def aggOf (r : Int × List UInt8 × Bool × List UInt8 × Bool) : Value := .agg #[.int .i64 r.1, .string ⟨r.2.1.toArray⟩, .bool r.2.2.1, .string ⟨r.2.2.2.1.toArray⟩]

/-- parseDecimal's reading behind the minus and the exponent's mark -/
def pRest (ng : Bool) (m : List UInt8 × List UInt8 × Bool) : Option (Bool × List UInt8 × List UInt8 × Bool × List UInt8) :=
  let c := cut m.1 [46]
  let n := hasPrefix m.2.1 [45]
  let x := if n || hasPrefix m.2.1 [43] then m.2.1.drop 1 else m.2.1
  if !allD c.1 || (c.2.2 && !allD c.2.1) || (m.2.2 && !allD x) then none else some (ng, c.1, c.2.1, n, x)

theorem trimPrefix_len (l p : List UInt8) : (trimPrefix l p).length ≤ l.length := by
  unfold trimPrefix; split
  · simp
  · exact Nat.le_refl _

theorem indexAny_lt (c : List UInt8) : ∀ l : List UInt8, indexAny l c < l.length
  | [] => by rw [indexAny]; decide
  | b :: l => by
    have ih := indexAny_lt c l
    rw [indexAny, List.length_cons]
    split
    · omega
    · split
      · omega
      · push_cast; omega
theorem pExp_cases (l : List UInt8) : (indexAny l eE = -1 ∧ pExp l = (l, [], false)) ∨ ∃ i : Nat, indexAny l eE = (i : Int) ∧ i < l.length ∧ pExp l = (l.take i, l.drop (i + 1), true) := by
  have h1 := indexAny_ge eE l
  have h2 := indexAny_lt eE l
  by_cases h : 0 ≤ indexAny l eE
  · right
    refine ⟨(indexAny l eE).toNat, by omega, by omega, ?_⟩
    unfold pExp; rw [if_pos h]
  · left
    refine ⟨by omega, ?_⟩
    unfold pExp; rw [if_neg h]
theorem ext_list' (s : ByteArray) (a b : Nat) : (s.extract a b).data.toList = (s.data.toList.take b).drop a := by
  rw [List.drop_take]; simp [ByteArray.data_extract]
theorem two_size (w : World) : (two w).heap.size = w.heap.size + 2 := by simp [two]
theorem below_two (w : World) : Below w.heap.size w (two w) := ((Below.refl _ _).alloc (Nat.le_refl _) _).alloc (by simp) _
theorem below_of_two {w wx : World} (h : Below (two w).heap.size (two w) wx) : Below w.heap.size w wx :=
  (below_two w).trans (h.mono (by rw [two_size]; omega))
theorem MaxL.below {w wx : World} (h : MaxL w) (h0 : 0 < w.heap.size) (hb : Below w.heap.size w wx) : MaxL wx := by
  obtain ⟨m, hm⟩ := h
  exact ⟨m, by rw [hb.cell (p := ⟨0, 0, none⟩) h0]; exact hm⟩
theorem cut_len (l : List UInt8) : (cut l [46]).1.length ≤ l.length ∧ (cut l [46]).2.1.length ≤ l.length := by
  unfold cut; split
  · simp; omega
  · exact ⟨Nat.le_refl _, Nat.zero_le _⟩
theorem pre_pos {s : ByteArray} {c : UInt8} (h : hasPrefix s.data.toList [c] = true) : 1 ≤ s.size := by
  rw [hasPre_one] at h
  rcases Nat.lt_or_ge 0 s.size with h1 | h1
  · exact h1
  · have : s.data.toList = [] := List.eq_nil_of_length_eq_zero (by rw [← Lib.size_eq]; omega)
    rw [this] at h; cases h
theorem two_cells {w wx : World} (h : Below (two w).heap.size (two w) wx) :
    wx.cell? ⟨w.heap.size + 1, 0, none⟩ = some (.int .i64 0) ∧ wx.cell? ⟨w.heap.size + 1, 1, none⟩ = some (.string ⟨#[]⟩) ∧ wx.cell? ⟨w.heap.size + 1, 2, none⟩ = some (.bool false) ∧ wx.cell? ⟨w.heap.size + 1, 3, none⟩ = some (.string ⟨#[]⟩) ∧
    wx.cell? ⟨w.heap.size, 0, none⟩ = some (.int .i64 0) ∧ wx.cell? ⟨w.heap.size, 1, none⟩ = some (.string ⟨#[]⟩) ∧ wx.cell? ⟨w.heap.size, 2, none⟩ = some (.bool false) ∧ wx.cell? ⟨w.heap.size, 3, none⟩ = some (.string ⟨#[]⟩) ∧
    wx.frozen? ⟨w.heap.size + 1, 0, none⟩ = false ∧ wx.frozen? ⟨w.heap.size + 1, 1, none⟩ = false ∧ wx.frozen? ⟨w.heap.size + 1, 2, none⟩ = false ∧ wx.frozen? ⟨w.heap.size + 1, 3, none⟩ = false ∧
    wx.frozen? ⟨w.heap.size, 0, none⟩ = false ∧ wx.frozen? ⟨w.heap.size, 1, none⟩ = false ∧ wx.frozen? ⟨w.heap.size, 2, none⟩ = false ∧ wx.frozen? ⟨w.heap.size, 3, none⟩ = false := by
  obtain ⟨hc, hf⟩ := bcell h
  have hs := two_size w
  refine ⟨?_, ?_, ?_, ?_, ?_, ?_, ?_, ?_, ?_, ?_, ?_, ?_, ?_, ?_, ?_, ?_⟩
  all_goals first
    | (rw [hc _ _ (by omega)]; simp [two])
    | (rw [hf _ _ (by omega)]; simp [two])
theorem drop_dw (p : UInt8 → Bool) : ∀ l : List UInt8, l.drop (l.length - (l.dropWhile p).length) = l.dropWhile p
  | [] => rfl
  | c :: t => by
    have ih := drop_dw p t
    have hl : (t.dropWhile p).length ≤ t.length := (List.dropWhile_sublist _).length_le
    rw [List.dropWhile_cons]
    split
    · rw [List.length_cons, Nat.succ_sub hl, List.drop_succ_cons]; exact ih
    · simp
theorem pExp_nil {l m x : List UInt8} (h : pExp l = (m, x, false)) : x = [] := by
  unfold pExp at h
  split at h
  · cases h
  · cases h; rfl
set_option maxRecDepth 1000000 in
set_option maxHeartbeats 32000000 in
theorem parse_walk (s : ByteArray) (w : World) (hs : s.size ≤ 1048576) (hp : Pow w) (hm : MaxL w) (h0 : 0 < w.heap.size) :
    Calls Tryd.prog 14 #[.string s] w fun e w' => e = .returned (.tuple #[aggOf (out (pParse s.data.toList)), .bool (out (pParse s.data.toList)).2.2.2.2]) ∧ Below w.heap.size w w' := by
  have HP : Hid (pParse s.data.toList = pRest (hasPrefix s.data.toList [45]) (pExp (trimPrefix s.data.toList [45]))) := rfl
  obtain ⟨t, ht⟩ : ∃ t : ByteArray, (⟨(trimPrefix s.data.toList [45]).toArray⟩ : ByteArray) = t := ⟨_, rfl⟩
  have htl : trimPrefix s.data.toList [45] = t.data.toList := by rw [← ht]
  have hts : t.size ≤ s.size := by
    rw [Lib.size_eq, ← htl, Lib.size_eq]; exact trimPrefix_len _ _
  have c1 := fun w => hasPre s ⟨#[45]⟩ w
  have c2 := fun w => trimMinus s w
  rw [ht] at c2
  have c3 := fun w => any_any t w (by omega)
  have HP2 : Hid (pParse s.data.toList = pRest (hasPrefix s.data.toList [45]) (pExp t.data.toList)) := by
    show _ = _
    rw [HP.out, htl]
  clear HP htl ht
  generalize hng : hasPrefix s.data.toList [45] = ng at HP2
  have hng2 : hasPrefix s.data.toList (⟨#[45]⟩ : ByteArray).data.toList = ng := hng
  rw [hng2] at c1
  clear hng hng2
  generalize pParse s.data.toList = R at HP2 ⊢
  have h2 : Below (two w).heap.size (two w) (two w) := Below.refl _ _
  go_enter Tryd.func14, Tryd.ntmps14
  go_upto_region 5 with (first | (go_at_call 23; refine (c1 _).mono ?_; rintro e w2 ⟨rfl, hw2⟩; rw [hw2]; clear hw2) | (go_at_call 24; refine (c2 _).mono ?_; rintro e w2 ⟨rfl, hw2⟩; rw [hw2]; clear hw2))
  obtain ⟨ix, hix⟩ : ∃ ix, indexAny t.data.toList eE = ix := ⟨_, rfl⟩
  rw [hix] at c3
  have HX := pExp_cases t.data.toList
  rw [hix] at HX
  have HX2 : Hid ((ix = -1 ∧ pExp t.data.toList = (t.data.toList, [], false)) ∨ ∃ i : Nat, ix = (i : Int) ∧ i < t.data.toList.length ∧ pExp t.data.toList = (t.data.toList.take i, t.data.toList.drop (i + 1), true)) := HX
  clear HX hix
  go_upto_if 25 with (go_at_call 25; refine (c3 _).mono ?_; rintro e wA ⟨rfl, hA⟩)
  go_cut [6, 7, 8] (fun m x h wx => ∃ (mB xB : ByteArray) (hB : Bool), m = .string mB ∧ x = .string xB ∧ h = .bool hB ∧ Below (two w).heap.size (two w) wx ∧ Hid (pExp t.data.toList = (mB.data.toList, xB.data.toList, hB)) ∧ mB.size ≤ s.size ∧ xB.size ≤ s.size)
  case first =>
    as_aux_lemma =>
      rcases HX2.out with ⟨rfl, hx⟩ | ⟨i, rfl, hi, hx⟩
      · have HX : Hid (pExp t.data.toList = (t.data.toList, [], false)) := hx
        clear hx HX2 c3
        go_wp2_with fail
        go_meet
        case rel => exact ⟨t, ⟨#[]⟩, false, rfl, rfl, rfl, hA, HX, hts, Nat.zero_le _⟩
      · have hi2 : i < t.size := by rw [Lib.size_eq]; exact hi
        have HX : Hid (pExp t.data.toList = ((t.extract 0 i).data.toList, (t.extract (i + 1) t.size).data.toList, true)) := by
          show _ = _
          rw [hx, ext_list' t 0 i, ext_list' t (i + 1) t.size, List.drop_zero, show t.data.toList.take t.size = t.data.toList from List.take_of_length_le (by rw [← Lib.size_eq]; exact Nat.le_refl _)]
        have hs1 : (t.extract 0 i).size ≤ s.size := by simp; omega
        have hs2 : (t.extract (i + 1) t.size).size ≤ s.size := by simp; omega
        clear hx HX2 c3 hi
        go_wp2_with fail
        go_quiet (fail)
        go_wp2_with fail
        go_meet
        case rel => exact ⟨_, _, true, rfl, rfl, rfl, below_drewN hA _, HX, hs1, hs2⟩
  case rest =>
    obtain ⟨mB, xB, hB, rfl, rfl, rfl, hAc, HX, hms, hxs⟩ := hcut
    clear HX2 c1 c2 c3 hA
    have HP3 : Hid (R = pRest ng (mB.data.toList, xB.data.toList, hB)) := by
      show _ = _
      rw [HP2.out, HX.out]
    have HNX : Hid (hB = false → xB.data.toList = []) := fun h => by subst h; exact pExp_nil HX.out
    clear HP2 HX
    have cD := fun w hm => cutDot mB w hm (by omega)
    have hcl := cut_len mB.data.toList
    rw [← Lib.size_eq] at hcl
    obtain ⟨WB, hWB⟩ : ∃ WB : ByteArray, (⟨(cut mB.data.toList [46]).1.toArray⟩ : ByteArray) = WB := ⟨_, rfl⟩
    obtain ⟨FB, hFB⟩ : ∃ FB : ByteArray, (⟨(cut mB.data.toList [46]).2.1.toArray⟩ : ByteArray) = FB := ⟨_, rfl⟩
    obtain ⟨hpB, hhp⟩ : ∃ hpB, (cut mB.data.toList [46]).2.2 = hpB := ⟨_, rfl⟩
    have HC : Hid (cut mB.data.toList [46] = (WB.data.toList, FB.data.toList, hpB)) := by rw [← hWB, ← hFB, ← hhp]; rfl
    rw [hWB, hFB, hhp] at cD
    have hWs : WB.size ≤ s.size := by
      have : WB.size = (cut mB.data.toList [46]).1.length := by rw [← hWB, Lib.size_eq]
      omega
    have hFs : FB.size ≤ s.size := by
      have : FB.size = (cut mB.data.toList [46]).2.1.length := by rw [← hFB, Lib.size_eq]
      omega
    clear hWB hFB hhp hcl
    have c1 := fun w => hasPre xB ⟨#[45]⟩ w
    have c2 := fun w => hasPre xB ⟨#[43]⟩ w
    have hn1 : hasPrefix xB.data.toList (⟨#[45]⟩ : ByteArray).data.toList = hasPrefix xB.data.toList [45] := rfl
    have hn2 : hasPrefix xB.data.toList (⟨#[43]⟩ : ByteArray).data.toList = hasPrefix xB.data.toList [43] := rfl
    rw [hn1] at c1
    rw [hn2] at c2
    clear hn1 hn2
    obtain ⟨n1, hn1⟩ : ∃ n1, hasPrefix xB.data.toList [45] = n1 := ⟨_, rfl⟩
    obtain ⟨n2, hn2⟩ : ∃ n2, hasPrefix xB.data.toList [43] = n2 := ⟨_, rfl⟩
    rw [hn1] at c1
    rw [hn2] at c2
    have HN1 : Hid (hasPrefix xB.data.toList [45] = n1) := hn1
    have HN2 : Hid (hasPrefix xB.data.toList [43] = n2) := hn2
    clear hn1 hn2
    have hmc : MaxL wc := hm.below h0 (below_of_two hAc)
    go_upto_region 10 with (first | (go_at_call 26; refine (cD _ hmc).mono ?_; rintro e w2 ⟨rfl, qn, hw2⟩; rw [hw2]; clear hw2) | (go_at_call 23; refine (c1 _).mono ?_; rintro e w2 ⟨rfl, hw2⟩; rw [hw2]; clear hw2))
    have hAd : Below (two w).heap.size (two w) (wc.drewN qn) := below_drewN hAc _
    generalize wc.drewN qn = wd at hAd ⊢
    clear hmc cD hAc
    go_cut [45] (fun v wx => wd = wx ∧ v = .bool (n1 || n2))
    case first =>
      as_aux_lemma =>
        cases n1
        · go_wp2_with (go_at_call 23; refine (c2 _).mono ?_; rintro e w2 ⟨rfl, hw2⟩; rw [hw2]; clear hw2)
          go_meet
          case rel => exact ⟨rfl, rfl⟩
        · go_wp2_with fail
          go_meet
          case rel => exact ⟨rfl, rfl⟩
    case rest =>
      obtain ⟨rfl, rfl⟩ := hcut
      clear c1 c2
      go_upto_if 45 with fail
      go_cut [7] (fun x wx => ∃ xC : ByteArray, wd = wx ∧ x = .string xC ∧ xC.size ≤ s.size ∧ Hid ((if n1 || n2 then xB.data.toList.drop 1 else xB.data.toList) = xC.data.toList))
      case first =>
        as_aux_lemma =>
          cases hn : (n1 || n2)
          · go_wp2_with fail
            go_meet
            case rel => exact ⟨xB, rfl, rfl, hxs, by show _ = _; rw [hn]; rfl⟩
          · have h1 : 1 ≤ xB.size := by
              rcases Bool.or_eq_true_iff.1 hn with h | h
              · exact pre_pos (c := 45) (by rw [HN1.out]; exact h)
              · exact pre_pos (c := 43) (by rw [HN2.out]; exact h)
            have HE : Hid (xB.data.toList.drop 1 = (xB.extract 1 xB.size).data.toList) := by
              show _ = _
              rw [ext_list' xB 1 xB.size, show xB.data.toList.take xB.size = xB.data.toList from List.take_of_length_le (by rw [← Lib.size_eq]; exact Nat.le_refl _)]
            have hsE : (xB.extract 1 xB.size).size ≤ s.size := by simp; omega
            go_wp2_with fail
            go_meet
            case rel => exact ⟨_, rfl, rfl, hsE, by show _ = _; rw [hn]; exact HE.out⟩
      case rest =>
        obtain ⟨xC, rfl, rfl, hxC, HXC⟩ := hcut
        have HR : Hid (R = if !allD WB.data.toList || (hpB && !allD FB.data.toList) || (hB && !allD xC.data.toList) then none else some (ng, WB.data.toList, FB.data.toList, n1, xC.data.toList)) := by
          show _ = _
          rw [HP3.out]; unfold pRest; simp only [HC.out, HN1.out, HN2.out, HXC.out]
        have HNE : Hid (hB = false → xC.data.toList = []) := fun h => by
          rw [← HXC.out, HNX.out h]; split <;> rfl
        clear HP3 HC HN1 HN2 HXC HNX
        have cw := fun w => allDigits_any WB w (by omega)
        have cf := fun w => allDigits_any FB w (by omega)
        have cx := fun w => allDigits_any xC w (by omega)
        obtain ⟨aw, haw⟩ : ∃ aw, allD WB.data.toList = aw := ⟨_, rfl⟩
        obtain ⟨af, haf⟩ : ∃ af, allD FB.data.toList = af := ⟨_, rfl⟩
        obtain ⟨ax, hax⟩ : ∃ ax, allD xC.data.toList = ax := ⟨_, rfl⟩
        rw [haw] at cw
        rw [haf] at cf
        rw [hax] at cx
        have HAW : Hid (allD WB.data.toList = aw) := haw
        have HAF : Hid (allD FB.data.toList = af) := haf
        have HAX : Hid (allD xC.data.toList = ax) := hax
        clear haw haf hax
        go_upto_region 12 with fail
        go_cut [66] (fun v wx => wd = wx ∧ v = .bool (!aw || (hpB && !af) || (hB && !ax)))
        case first =>
          as_aux_lemma =>
            cases aw
            · go_wp2_with (first | (go_at_call_has 27 WB; refine (cw _).mono ?_; rintro e w2 ⟨rfl, hw2⟩; rw [hw2]; clear hw2) | (go_at_call_has 27 FB; refine (cf _).mono ?_; rintro e w2 ⟨rfl, hw2⟩; rw [hw2]; clear hw2) | (go_at_call_has 27 xC; refine (cx _).mono ?_; rintro e w2 ⟨rfl, hw2⟩; rw [hw2]; clear hw2))
              go_meet
              case rel => exact ⟨rfl, rfl⟩
            · cases hpB
              · cases hB
                · go_wp2_with (first | (go_at_call_has 27 WB; refine (cw _).mono ?_; rintro e w2 ⟨rfl, hw2⟩; rw [hw2]; clear hw2) | (go_at_call_has 27 FB; refine (cf _).mono ?_; rintro e w2 ⟨rfl, hw2⟩; rw [hw2]; clear hw2) | (go_at_call_has 27 xC; refine (cx _).mono ?_; rintro e w2 ⟨rfl, hw2⟩; rw [hw2]; clear hw2))
                  go_meet
                  case rel => exact ⟨rfl, rfl⟩
                · go_wp2_with (first | (go_at_call_has 27 WB; refine (cw _).mono ?_; rintro e w2 ⟨rfl, hw2⟩; rw [hw2]; clear hw2) | (go_at_call_has 27 FB; refine (cf _).mono ?_; rintro e w2 ⟨rfl, hw2⟩; rw [hw2]; clear hw2) | (go_at_call_has 27 xC; refine (cx _).mono ?_; rintro e w2 ⟨rfl, hw2⟩; rw [hw2]; clear hw2))
                  go_meet
                  case rel => exact ⟨rfl, rfl⟩
              · cases af
                · go_wp2_with (first | (go_at_call_has 27 WB; refine (cw _).mono ?_; rintro e w2 ⟨rfl, hw2⟩; rw [hw2]; clear hw2) | (go_at_call_has 27 FB; refine (cf _).mono ?_; rintro e w2 ⟨rfl, hw2⟩; rw [hw2]; clear hw2) | (go_at_call_has 27 xC; refine (cx _).mono ?_; rintro e w2 ⟨rfl, hw2⟩; rw [hw2]; clear hw2))
                  go_meet
                  case rel => exact ⟨rfl, rfl⟩
                · cases hB
                  · go_wp2_with (first | (go_at_call_has 27 WB; refine (cw _).mono ?_; rintro e w2 ⟨rfl, hw2⟩; rw [hw2]; clear hw2) | (go_at_call_has 27 FB; refine (cf _).mono ?_; rintro e w2 ⟨rfl, hw2⟩; rw [hw2]; clear hw2) | (go_at_call_has 27 xC; refine (cx _).mono ?_; rintro e w2 ⟨rfl, hw2⟩; rw [hw2]; clear hw2))
                    go_meet
                    case rel => exact ⟨rfl, rfl⟩
                  · go_wp2_with (first | (go_at_call_has 27 WB; refine (cw _).mono ?_; rintro e w2 ⟨rfl, hw2⟩; rw [hw2]; clear hw2) | (go_at_call_has 27 FB; refine (cf _).mono ?_; rintro e w2 ⟨rfl, hw2⟩; rw [hw2]; clear hw2) | (go_at_call_has 27 xC; refine (cx _).mono ?_; rintro e w2 ⟨rfl, hw2⟩; rw [hw2]; clear hw2))
                    go_meet
                    case rel => exact ⟨rfl, rfl⟩
        case rest =>
          obtain ⟨rfl, rfl⟩ := hcut
          clear cw cf cx
          have HR2 : Hid (R = if !aw || (hpB && !af) || (hB && !ax) then none else some (ng, WB.data.toList, FB.data.toList, n1, xC.data.toList)) := by
            show _ = _
            rw [HR.out, HAW.out, HAF.out, HAX.out]
          clear HR
          obtain ⟨bad, hbad⟩ : ∃ bad, (!aw || (hpB && !af) || (hB && !ax)) = bad := ⟨_, rfl⟩
          have hbits : bad = false → (WB.data.toList.all dg = true ∧ (hB = true → xC.data.toList.all dg = true)) := by
            rintro rfl
            have h1 := Bool.or_eq_false_iff.1 hbad
            have h2 := Bool.or_eq_false_iff.1 h1.1
            constructor
            · have h3 : allD WB.data.toList = true := by rw [HAW.out]; simpa using h2.1
              unfold allD at h3; exact (Bool.and_eq_true_iff.1 h3).1
            · rintro rfl
              have h3 : allD xC.data.toList = true := by rw [HAX.out]; simpa using h1.2
              unfold allD at h3; exact (Bool.and_eq_true_iff.1 h3).1
          rw [hbad] at HR2 ⊢
          have HBT : Hid (bad = false → (WB.data.toList.all dg = true ∧ (hB = true → xC.data.toList.all dg = true))) := hbits
          clear hbits hbad HAW HAF HAX
          obtain ⟨d0, d1, d2, d3, r0, r1, r2, r3, f0, f1, f2, f3, g0, g1, g2, g3⟩ := two_cells hAd
          have hBw := below_of_two hAd
          cases bad
          · have HS : Hid (R = some (ng, WB.data.toList, FB.data.toList, n1, xC.data.toList)) := HR2.out
            clear HR2
            have HXD : Hid (xC.data.toList.all dg = true) := by
              show _ = _
              cases hB
              · rw [HNE.out rfl]; rfl
              · exact (HBT.out rfl).2 rfl
            have cT := fun w => trimZeros (WB ++ FB) w
            have hAl : Hid ((WB ++ FB).data.toList = WB.data.toList ++ FB.data.toList) := by show _ = _; simp
            have hAz : (WB ++ FB).size = WB.size + FB.size := by simp
            have hAs : (WB ++ FB).size ≤ 2097152 := by omega
            have HAz : Hid ((WB ++ FB).size = WB.size + FB.size) := hAz
            clear hAz
            go_wp2_with fail
            generalize WB ++ FB = al at cT hAl hAs HAz ⊢
            obtain ⟨db, hdb⟩ : ∃ db : ByteArray, (⟨(trimLeftB al.data.toList 48).toArray⟩ : ByteArray) = db := ⟨_, rfl⟩
            rw [hdb] at cT
            have HDB : Hid (al.data.toList.dropWhile (· == 48) = db.data.toList) := by show _ = _; rw [← hdb]; rfl
            have hds : db.size ≤ al.size := by
              rw [Lib.size_eq db, ← HDB.out, Lib.size_eq al]; exact (List.dropWhile_sublist _).length_le
            clear hdb
            refine (cT _).mono ?_
            rintro e w2 ⟨rfl, hw2⟩
            rw [hw2]
            clear hw2 cT
            have hAz2 : (WB.size : Int) + (FB.size : Int) = (al.size : Int) := by have := HAz.out; omega
            rw [hAz2]
            clear hAz2
            by_cases hz : db.size = 0
            · have hzb : (((al.size : Int) - (db.size : Int)) == (al.size : Int)) = true := by rw [beq_iff_eq]; omega
              have HN : Hid (out R = (0, [], false, [], true)) := by
                show _ = _
                rw [HS.out]
                exact out_zero (by rw [← hAl.out, HDB.out]; exact List.eq_nil_of_length_eq_zero (by rw [← Lib.size_eq]; exact hz))
              clear hz
              go_wp2_with fail
              refine bodyPost_ret (v := .tuple #[.agg #[.int .i64 0, .string ⟨#[]⟩, .bool false, .string ⟨#[]⟩], .bool true]) ?_ rfl ⟨by rw [HN.out]; rfl, ?_⟩
              · simp [results, Tryd.results14, go_sem, r0, r1, r2, r3]
              · repeat (first | exact hBw | refine Below.setCell ?_ (by simp) _)
            · obtain ⟨f, hf'⟩ : ∃ f : Nat, f = al.size - db.size := ⟨_, rfl⟩
              have hzb : ((f : Int) == (al.size : Int)) = false := by rw [beq_eq_false_iff_ne]; omega
              have hlead : (al.size : Int) - (db.size : Int) = (f : Int) := by omega
              have hfs : f < al.size := by omega
              have HFD : Hid (al.data.toList.drop f = db.data.toList) := by
                show _ = _
                rw [← HDB.out, hf', Lib.size_eq al, Lib.size_eq db, ← HDB.out]; exact drop_dw _ _
              have HF : Hid (f = al.size - db.size) := hf'
              have HZ : Hid (db.size ≠ 0) := hz
              clear hf' hz
              have cR := fun w => trimRZeros (al.extract f al.size) w (by simp; omega)
              have HGL : Hid ((al.extract f al.size).data.toList = db.data.toList) := by
                show _ = _
                rw [ext_list' al f al.size, show al.data.toList.take al.size = al.data.toList from List.take_of_length_le (by rw [← Lib.size_eq]; exact Nat.le_refl _)]; exact HFD.out
              obtain ⟨gb, hgb⟩ : ∃ gb : ByteArray, (⟨(trimRightB (al.extract f al.size).data.toList 48).toArray⟩ : ByteArray) = gb := ⟨_, rfl⟩
              rw [hgb] at cR
              have HGB : Hid (trimRightB db.data.toList 48 = gb.data.toList) := by show _ = _; rw [← hgb, ← HGL.out]
              clear hgb HGL
              have cL := fun w => trimZeros xC w
              obtain ⟨xb, hxb⟩ : ∃ xb : ByteArray, (⟨(trimLeftB xC.data.toList 48).toArray⟩ : ByteArray) = xb := ⟨_, rfl⟩
              rw [hxb] at cL
              have HXB : Hid (xC.data.toList.dropWhile (· == 48) = xb.data.toList) := by show _ = _; rw [← hxb]; rfl
              have hxbs : xb.size ≤ xC.size := by
                rw [Lib.size_eq xb, ← HXB.out, Lib.size_eq xC]; exact (List.dropWhile_sublist _).length_le
              clear hxb
              have HCN : Hid (can xb.data.toList) := by
                show can _
                rw [← HXB.out]; exact ⟨(drop_zeros _ HXD.out).1, (drop_zeros _ HXD.out).2.2⟩
              have hBn : Bnd ((WB.size : Int) - (f : Int)) := ⟨by omega, by omega⟩
              have HBN : Hid (Bnd ((WB.size : Int) - (f : Int))) := hBn
              clear hBn
              have hwd := hAd.size
              rw [two_size] at hwd
              have HO : Hid (out R = (if ng then -1 else 1, gb.data.toList, addN n1 xb.data.toList ((WB.size : Int) - (f : Int)), addM n1 xb.data.toList ((WB.size : Int) - (f : Int)), true)) := by
                show _ = _
                have hne : db.data.toList ≠ [] := fun e => HZ.out (by rw [Lib.size_eq, e]; rfl)
                rw [HS.out, out_some (D := db.data.toList) (by rw [← hAl.out]; exact HDB.out) hne, HGB.out, HXB.out]
                have e1 : ((WB.data.toList.length : Int) - (((WB.data.toList ++ FB.data.toList).length : Int) - (db.data.toList.length : Int))) = (WB.size : Int) - (f : Int) := by
                  rw [← hAl.out, ← Lib.size_eq, ← Lib.size_eq, ← Lib.size_eq]; have := HF.out; omega
                rw [e1]
              clear HS hAl HDB HFD HZ HGB HXB
              cases ng
              · go_wp2_with (first | (go_at_call 29; refine (cR _).mono ?_; rintro e w2 ⟨rfl, hw2⟩; rw [hw2]; clear hw2) | (go_at_call 28; refine (cL _).mono ?_; rintro e w2 ⟨rfl, hw2⟩; rw [hw2]; clear hw2))
                refine (add_any n1 xb _ _ (hp.below (by repeat (first | exact hBw | refine Below.setCell ?_ (by simp) _ | refine Below.alloc ?_ (by simp; omega) _)) (Nat.le_refl _)) (by omega) HCN.out HBN.out).mono ?_
                rintro e w3 ⟨rfl, h3⟩
                obtain ⟨hc3, hf3⟩ := bcell h3
                have b3 : Below w.heap.size w w3 := by
                  refine Below.trans ?_ (h3.mono (by simp; omega))
                  repeat (first | exact hBw | refine Below.setCell ?_ (by simp) _ | refine Below.alloc ?_ (by simp; omega) _)
                have hx1 : w.heap.size + 1 < wd.heap.size := by omega
                have hx0 : w.heap.size < wd.heap.size := by omega
                have e0 : w3.cell? ⟨w.heap.size + 1, 0, none⟩ = some (.int .i64 1) := by rw [hc3 (w.heap.size + 1) 0 (by simp; omega)]; simp [go_sem, d0, hx1]
                have e1 : w3.cell? ⟨w.heap.size + 1, 1, none⟩ = some (.string gb) := by rw [hc3 (w.heap.size + 1) 1 (by simp; omega)]; simp [go_sem, d1, hx1]
                have e2 : w3.cell? ⟨w.heap.size + 1, 2, none⟩ = some (.bool false) := by rw [hc3 (w.heap.size + 1) 2 (by simp; omega)]; simp [go_sem, d2, hx1]
                have e3 : w3.cell? ⟨w.heap.size + 1, 3, none⟩ = some (.string ⟨#[]⟩) := by rw [hc3 (w.heap.size + 1) 3 (by simp; omega)]; simp [go_sem, d3, hx1]
                have q0 : w3.cell? ⟨w.heap.size, 0, none⟩ = some (.int .i64 0) := by rw [hc3 w.heap.size 0 (by simp; omega)]; simp [go_sem, r0, hx0]
                have q1 : w3.cell? ⟨w.heap.size, 1, none⟩ = some (.string ⟨#[]⟩) := by rw [hc3 w.heap.size 1 (by simp; omega)]; simp [go_sem, r1, hx0]
                have q2 : w3.cell? ⟨w.heap.size, 2, none⟩ = some (.bool false) := by rw [hc3 w.heap.size 2 (by simp; omega)]; simp [go_sem, r2, hx0]
                have q3 : w3.cell? ⟨w.heap.size, 3, none⟩ = some (.string ⟨#[]⟩) := by rw [hc3 w.heap.size 3 (by simp; omega)]; simp [go_sem, r3, hx0]
                have k0 : w3.frozen? ⟨w.heap.size + 1, 0, none⟩ = false := by rw [hf3 (w.heap.size + 1) 0 (by simp; omega)]; simp [go_sem, f0, hx1]
                have k1 : w3.frozen? ⟨w.heap.size + 1, 1, none⟩ = false := by rw [hf3 (w.heap.size + 1) 1 (by simp; omega)]; simp [go_sem, f1, hx1]
                have k2 : w3.frozen? ⟨w.heap.size + 1, 2, none⟩ = false := by rw [hf3 (w.heap.size + 1) 2 (by simp; omega)]; simp [go_sem, f2, hx1]
                have k3 : w3.frozen? ⟨w.heap.size + 1, 3, none⟩ = false := by rw [hf3 (w.heap.size + 1) 3 (by simp; omega)]; simp [go_sem, f3, hx1]
                have p0 : w3.frozen? ⟨w.heap.size, 0, none⟩ = false := by rw [hf3 w.heap.size 0 (by simp; omega)]; simp [go_sem, g0, hx0]
                have p1 : w3.frozen? ⟨w.heap.size, 1, none⟩ = false := by rw [hf3 w.heap.size 1 (by simp; omega)]; simp [go_sem, g1, hx0]
                have p2 : w3.frozen? ⟨w.heap.size, 2, none⟩ = false := by rw [hf3 w.heap.size 2 (by simp; omega)]; simp [go_sem, g2, hx0]
                have p3 : w3.frozen? ⟨w.heap.size, 3, none⟩ = false := by rw [hf3 w.heap.size 3 (by simp; omega)]; simp [go_sem, g3, hx0]
                clear hc3 hf3 h3 d0 d1 d2 d3 r0 r1 r2 r3 f0 f1 f2 f3 g0 g1 g2 g3
                go_wp2_with fail
                refine bodyPost_ret (v := .tuple #[.agg #[.int .i64 1, .string gb, .bool (addN n1 xb.data.toList ((WB.size : Int) - (f : Int))), .string ⟨(addM n1 xb.data.toList ((WB.size : Int) - (f : Int))).toArray⟩], .bool true]) ?_ rfl ⟨by rw [HO.out]; rfl, ?_⟩
                · simp [results, Tryd.results14, go_sem, q0, q1, q2, q3]
                · repeat (first | exact b3 | refine Below.setCell ?_ (by simp) _)
              · go_wp2_with (first | (go_at_call 29; refine (cR _).mono ?_; rintro e w2 ⟨rfl, hw2⟩; rw [hw2]; clear hw2) | (go_at_call 28; refine (cL _).mono ?_; rintro e w2 ⟨rfl, hw2⟩; rw [hw2]; clear hw2))
                refine (add_any n1 xb _ _ (hp.below (by repeat (first | exact hBw | refine Below.setCell ?_ (by simp) _ | refine Below.alloc ?_ (by simp; omega) _)) (Nat.le_refl _)) (by omega) HCN.out HBN.out).mono ?_
                rintro e w3 ⟨rfl, h3⟩
                obtain ⟨hc3, hf3⟩ := bcell h3
                have b3 : Below w.heap.size w w3 := by
                  refine Below.trans ?_ (h3.mono (by simp; omega))
                  repeat (first | exact hBw | refine Below.setCell ?_ (by simp) _ | refine Below.alloc ?_ (by simp; omega) _)
                have hx1 : w.heap.size + 1 < wd.heap.size := by omega
                have hx0 : w.heap.size < wd.heap.size := by omega
                have e0 : w3.cell? ⟨w.heap.size + 1, 0, none⟩ = some (.int .i64 (-1)) := by rw [hc3 (w.heap.size + 1) 0 (by simp; omega)]; simp [go_sem, d0, hx1]
                have e1 : w3.cell? ⟨w.heap.size + 1, 1, none⟩ = some (.string gb) := by rw [hc3 (w.heap.size + 1) 1 (by simp; omega)]; simp [go_sem, d1, hx1]
                have e2 : w3.cell? ⟨w.heap.size + 1, 2, none⟩ = some (.bool false) := by rw [hc3 (w.heap.size + 1) 2 (by simp; omega)]; simp [go_sem, d2, hx1]
                have e3 : w3.cell? ⟨w.heap.size + 1, 3, none⟩ = some (.string ⟨#[]⟩) := by rw [hc3 (w.heap.size + 1) 3 (by simp; omega)]; simp [go_sem, d3, hx1]
                have q0 : w3.cell? ⟨w.heap.size, 0, none⟩ = some (.int .i64 0) := by rw [hc3 w.heap.size 0 (by simp; omega)]; simp [go_sem, r0, hx0]
                have q1 : w3.cell? ⟨w.heap.size, 1, none⟩ = some (.string ⟨#[]⟩) := by rw [hc3 w.heap.size 1 (by simp; omega)]; simp [go_sem, r1, hx0]
                have q2 : w3.cell? ⟨w.heap.size, 2, none⟩ = some (.bool false) := by rw [hc3 w.heap.size 2 (by simp; omega)]; simp [go_sem, r2, hx0]
                have q3 : w3.cell? ⟨w.heap.size, 3, none⟩ = some (.string ⟨#[]⟩) := by rw [hc3 w.heap.size 3 (by simp; omega)]; simp [go_sem, r3, hx0]
                have k0 : w3.frozen? ⟨w.heap.size + 1, 0, none⟩ = false := by rw [hf3 (w.heap.size + 1) 0 (by simp; omega)]; simp [go_sem, f0, hx1]
                have k1 : w3.frozen? ⟨w.heap.size + 1, 1, none⟩ = false := by rw [hf3 (w.heap.size + 1) 1 (by simp; omega)]; simp [go_sem, f1, hx1]
                have k2 : w3.frozen? ⟨w.heap.size + 1, 2, none⟩ = false := by rw [hf3 (w.heap.size + 1) 2 (by simp; omega)]; simp [go_sem, f2, hx1]
                have k3 : w3.frozen? ⟨w.heap.size + 1, 3, none⟩ = false := by rw [hf3 (w.heap.size + 1) 3 (by simp; omega)]; simp [go_sem, f3, hx1]
                have p0 : w3.frozen? ⟨w.heap.size, 0, none⟩ = false := by rw [hf3 w.heap.size 0 (by simp; omega)]; simp [go_sem, g0, hx0]
                have p1 : w3.frozen? ⟨w.heap.size, 1, none⟩ = false := by rw [hf3 w.heap.size 1 (by simp; omega)]; simp [go_sem, g1, hx0]
                have p2 : w3.frozen? ⟨w.heap.size, 2, none⟩ = false := by rw [hf3 w.heap.size 2 (by simp; omega)]; simp [go_sem, g2, hx0]
                have p3 : w3.frozen? ⟨w.heap.size, 3, none⟩ = false := by rw [hf3 w.heap.size 3 (by simp; omega)]; simp [go_sem, g3, hx0]
                clear hc3 hf3 h3 d0 d1 d2 d3 r0 r1 r2 r3 f0 f1 f2 f3 g0 g1 g2 g3
                go_wp2_with fail
                refine bodyPost_ret (v := .tuple #[.agg #[.int .i64 (-1), .string gb, .bool (addN n1 xb.data.toList ((WB.size : Int) - (f : Int))), .string ⟨(addM n1 xb.data.toList ((WB.size : Int) - (f : Int))).toArray⟩], .bool true]) ?_ rfl ⟨by rw [HO.out]; rfl, ?_⟩
                · simp [results, Tryd.results14, go_sem, q0, q1, q2, q3]
                · repeat (first | exact b3 | refine Below.setCell ?_ (by simp) _)
          · have HN : Hid (R = none) := HR2.out
            go_wp2_with fail
            refine bodyPost_ret (v := .tuple #[.agg #[.int .i64 0, .string ⟨#[]⟩, .bool false, .string ⟨#[]⟩], .bool false]) ?_ rfl ⟨by rw [HN.out]; rfl, ?_⟩
            · simp [results, Tryd.results14, go_sem, r0, r1, r2, r3]
            · repeat (first | exact hBw | refine Below.setCell ?_ (by simp) _)
        end Go.Proofs.Qxb6604011aDoor
