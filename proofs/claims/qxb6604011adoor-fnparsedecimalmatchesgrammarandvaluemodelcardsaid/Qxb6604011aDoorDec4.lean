import Derived.Test.Qxb6604011aDoorDec3
import Derived.Deep.DeepCutAuto
namespace Go.Proofs.Qxb6604011aDoor
open Go.RowKit Go.Lib

theorem ext_list (s : ByteArray) (a b : Nat) : (s.extract a b).data.toList = (s.data.toList.take b).drop a := by
  rw [List.drop_take]; simp [ByteArray.data_extract]
theorem ext_size {s : ByteArray} {a b : Nat} (h1 : a ≤ b) (h2 : b ≤ s.size) : (s.extract a b).size = b - a := by
  simp; omega
theorem ext_app (s : ByteArray) (k k2 a b : Nat) : (s.extract k k2 ++ s.extract a b).data.toList = (s.data.toList.take k2).drop k ++ (s.data.toList.take b).drop a := by
  rw [← ext_list, ← ext_list]; simp
theorem ext_app_size {s : ByteArray} {k k2 a b : Nat} (h1 : k ≤ k2) (h2 : k2 ≤ s.size) (h3 : a ≤ b) (h4 : b ≤ s.size) : (s.extract k k2 ++ s.extract a b).size = (k2 - k) + (b - a) := by
  simp; omega
theorem trimR_snoc (m : List UInt8) : trimRightB (m ++ [48]) 48 = trimRightB m 48 := by simp [trimRightB]
theorem trimR_last (m : List UInt8) {x : UInt8} (h : x ≠ 48) : trimRightB (m ++ [x]) 48 = m ++ [x] := by simp [trimRightB, h]
theorem part_snoc (s : ByteArray) {f j : Nat} (h1 : f ≤ j) (h2 : j < s.size) : (s.data.toList.take (j + 1)).drop f = (s.data.toList.take j).drop f ++ [s[j]] := by
  rw [take_snoc s j h2, List.drop_append_of_le_length (by simp; omega)]
theorem b48_yes {c : UInt8} (h : ((c.toNat : Int) == 48) = true) : c = 48 := by
  have := beq_iff_eq.1 h
  exact UInt8.toNat_inj.1 (by show c.toNat = 48; omega)
theorem b48_no {c : UInt8} (h : ((c.toNat : Int) == 48) = false) : c ≠ 48 := by
  rintro rfl; exact absurd h (by decide)
theorem out_some {n en : Bool} {W F X D : List UInt8} (h : (W ++ F).dropWhile (· == 48) = D) (hD : D ≠ []) : out (some (n, W, F, en, X)) =
    (if n then -1 else 1, trimRightB D 48, addN en (X.dropWhile (· == 48)) ((W.length : Int) - ((W ++ F).length - D.length)), addM en (X.dropWhile (· == 48)) ((W.length : Int) - ((W ++ F).length - D.length)), true) := by
  subst h; unfold out; simp only [hD, if_false]
theorem add_en {en : Bool} {l : List UInt8} (n : Int) (hl : l = []) : addN en l n = addN false l n ∧ addM en l n = addM false l n := by
  subst hl; rw [(add_nil en n).1, (add_nil en n).2, (add_nil false n).1, (add_nil false n).2]; exact ⟨rfl, rfl⟩

theorem st3_dg {m X r : List UInt8} {en : Bool} (h : st3 m = some (en, X, r)) : X.all dg = true := by
  unfold st3 at h
  split at h
  · split at h
    · cases h
    · cases h; exact List.all_takeWhile
  · cases h; rfl
theorem em_size {s : ByteArray} {c d : Nat} (h1 : c ≤ d) (h2 : d ≤ s.size) (h3 : s.size ≤ 1048576) : (⟨((s.extract c d).data.toList.dropWhile (· == 48)).toArray⟩ : ByteArray).size ≤ 1048576 := by
  have e : (⟨((s.extract c d).data.toList.dropWhile (· == 48)).toArray⟩ : ByteArray).size = ((s.extract c d).data.toList.dropWhile (· == 48)).length := by
    rw [Lib.size_eq]
  have h4 : ((s.extract c d).data.toList.dropWhile (· == 48)).length ≤ (s.extract c d).data.toList.length := (List.dropWhile_sublist _).length_le
  rw [← Lib.size_eq, ext_size h1 h2] at h4
  omega
theorem final {n en : Bool} {W F X : List UInt8} {al em : ByteArray} {f j k k2 q : Nat} {e' : Bool} {sh : Int}
    (hA : al.data.toList = W ++ F) (HZ : al.data.toList.dropWhile (· == 48) = al.data.toList.drop f) (HS : trimRightB (al.data.toList.drop f) 48 = (al.data.toList.take (j + 1)).drop f) (HEM : em.data.toList = X.dropWhile (· == 48)) (hAs : al.size = k2 - k + q) (hf : f < al.size) (hk2s : W.length = k2 - k) (he : e' = en ∨ em.data.toList = []) (hsh : sh = ((k2 - k : Nat) : Int) - f) :
    five (out (some (n, W, F, en, X))) = .tuple #[.int .i64 (if n then -1 else 1), .string (al.extract f (j + 1)), .bool (addN e' em.data.toList sh), .string ⟨(addM e' em.data.toList sh).toArray⟩, .bool true] := by
  have hne : al.data.toList.drop f ≠ [] := by
    intro e; have := congrArg List.length e; simp at this; omega
  rw [out_some (D := al.data.toList.drop f) (by rw [← hA]; exact HZ) hne]
  have hsh2 : ((W.length : Int) - (((W ++ F).length : Int) - ((al.data.toList.drop f).length : Int))) = sh := by
    rw [hsh, ← hA, List.length_drop, ← Lib.size_eq]; omega
  have hst : (⟨((al.data.toList.take (j + 1)).drop f).toArray⟩ : ByteArray) = al.extract f (j + 1) := by
    rw [← ext_list]
  have hadd : addN en (X.dropWhile (· == 48)) sh = addN e' em.data.toList sh ∧ addM en (X.dropWhile (· == 48)) sh = addM e' em.data.toList sh := by
    rw [HEM] at he ⊢
    rcases he with rfl | he
    · exact ⟨rfl, rfl⟩
    · have h1 := add_en (en := en) sh he
      have h2 := add_en (en := e') sh he
      exact ⟨h1.1.trans h2.1.symm, h1.2.trans h2.2.symm⟩
  rw [hsh2]
  unfold five
  simp only
  rw [HS, hst, hadd.1, hadd.2]

theorem out_zero {n en : Bool} {W F X : List UInt8} (h : (W ++ F).dropWhile (· == 48) = []) : out (some (n, W, F, en, X)) = (0, [], false, [], true) := by
  unfold out; simp only [h, if_true]

set_option maxRecDepth 1000000 in
set_option maxHeartbeats 4000000 in
theorem model_walk (s : ByteArray) (w : World) (hs : s.size ≤ 1048576) :
    Calls Tryd.prog 8 #[.string s] w fun e w' => e = .returned (five (out (mParse s.data.toList))) ∧ Below w.heap.size w w' := by
  go_enter Tryd.func8, Tryd.ntmps8
  go_upto_region 3 with fail
  go_cut [36] (fun b wx => w = wx ∧ b = .bool (atB s.data.toList 0 45))
  case first =>
    as_aux_lemma =>
      by_cases hlt : 0 < s.size
      · have hb := atB_lt hlt 45 45 rfl
        go_wp2_with fail
        go_meet
        case rel => exact ⟨rfl, rfl⟩
      · have hb := atB_ge hlt 45
        go_wp2_with fail
        go_meet
        case rel => exact ⟨rfl, by rw [hb]⟩
  case rest =>
    obtain ⟨rfl, rfl⟩ := hcut
    go_upto_if 36 with fail
    go_cut [7, 8] (fun i ng wx => ∃ n : Bool, ∃ k : Nat, w = wx ∧ ng = .bool n ∧ i = .int .i64 k ∧ k ≤ s.size ∧ Hid (st1 s.data.toList = (n, s.data.toList.drop k)))
    case first =>
      as_aux_lemma =>
        cases hb : atB s.data.toList 0 45
        · have H : Hid (st1 s.data.toList = (false, s.data.toList.drop 0)) := st1_no hb
          go_wp2_with fail
          go_meet
          case rel => exact ⟨false, 0, rfl, rfl, rfl, Nat.zero_le _, H⟩
        · have H : Hid (st1 s.data.toList = (true, s.data.toList.drop 1)) := st1_yes hb
          have hl := (atB_true hb).1
          go_wp2_with fail
          go_meet
          case rel => exact ⟨true, 1, rfl, rfl, rfl, hl, H⟩
    case rest =>
      obtain ⟨n, k, rfl, rfl, rfl, hk, HS1⟩ := hcut
      have cs := skip_any s k w (by omega) hk
      have hle := skip_le hk
      have HZ : Hid (skip s.data.toList k = k → mParse s.data.toList = none) := none_whole HS1.out
      obtain ⟨k2, hk2⟩ : ∃ k2, skip s.data.toList k = k2 := ⟨_, rfl⟩
      rw [hk2] at cs hle
      have HK2 : Hid (skip s.data.toList k = k2) := hk2
      clear hk2
      go_upto_if 46 with (go_at_call 15; refine cs.mono ?_; rintro e w2 ⟨rfl, hw2⟩; rw [hw2]; clear hw2)
      go_cut [7] (fun b wx => w = wx ∧ b = .int .i64 k2 ∧ Hid (k2 ≠ k))
      case first =>
        as_aux_lemma =>
          by_cases hz : k2 = k
          · have hzb : ((k2 : Int) == (k : Int)) = true := by rw [beq_iff_eq]; omega
            have HN : Hid (mParse s.data.toList = none) := HZ.out (by rw [HK2.out, hz])
            go_wp2_with fail
            ((try simp only [Exit.inBlock, Exit.then]); refine bodyPost_ret (results_tmp5 rfl _ _ _) rfl ?_)
            exact ⟨by rw [HN.out]; rfl, Below.refl _ _⟩
          · have hzb : ((k2 : Int) == (k : Int)) = false := by rw [beq_eq_false_iff_ne]; omega
            go_wp2_with fail
            go_meet
            case rel => exact ⟨rfl, rfl, hz⟩
      case rest =>
        obtain ⟨rfl, rfl, hz⟩ := hcut
        have R2 : Hid (Rd2 s.data.toList n k k2) := ⟨HS1.out, HK2.out, hz.out⟩
        clear hz HZ HK2 HS1 cs
        have hk2s := hle.2
        go_upto_region 13 with fail
        go_cut [58] (fun b wx => w = wx ∧ b = .bool (atB s.data.toList k2 46))
        case first =>
          as_aux_lemma =>
            by_cases hlt : k2 < s.size
            · have hb := atB_lt hlt 46 46 rfl
              go_wp2_with fail
              go_meet
              case rel => exact ⟨rfl, rfl⟩
            · have hb := atB_ge hlt 46
              go_wp2_with fail
              go_meet
              case rel => exact ⟨rfl, by rw [hb]⟩
        case rest =>
          obtain ⟨rfl, rfl⟩ := hcut
          go_upto_if 58 with fail
          go_cut [7, 11, 12] (fun i fs fe wx => ∃ a b : Nat, w = wx ∧ i = .int .i64 b ∧ fs = .int .i64 a ∧ fe = .int .i64 b ∧ a ≤ b ∧ b ≤ s.size ∧ Hid (Rd3 s.data.toList n k k2 a b))
          case first =>
            as_aux_lemma =>
              cases hb : atB s.data.toList k2 46
              · have H : Hid (Rd3 s.data.toList n k k2 k2 k2) := ⟨R2.out, st2_no hb⟩
                go_wp2_with fail
                go_meet
                case rel => exact ⟨k2, k2, rfl, rfl, rfl, rfl, Nat.le_refl _, hk2s, H⟩
              · have hl := (atB_true hb).1
                have HB : Hid (atB s.data.toList k2 46 = true) := hb
                have cs := skip_any s (k2 + 1) w (by omega) hl
                have hle2 := skip_le (s := s) (k := k2 + 1) hl
                obtain ⟨b, hbb⟩ : ∃ b, skip s.data.toList (k2 + 1) = b := ⟨_, rfl⟩
                rw [hbb] at cs hle2
                have HBB : Hid (skip s.data.toList (k2 + 1) = b) := hbb
                clear hbb
                have hcast : ((k2 + 1 : Nat) : Int) = (k2 : Int) + 1 := rfl
                rw [hcast] at cs
                by_cases hz : b = k2 + 1
                · have hzb : ((b : Int) == (k2 : Int) + 1) = true := by rw [beq_iff_eq]; omega
                  have HN : Hid (mParse s.data.toList = none) := R2.out.none (st2_none HB.out (by rw [HBB.out, hz]))
                  clear hz
                  go_wp2_with (go_at_call 15; refine cs.mono ?_; rintro e w2 ⟨rfl, hw2⟩; rw [hw2]; clear hw2)
                  ((try simp only [Exit.inBlock, Exit.then]); refine bodyPost_ret (results_tmp5 rfl _ _ _) rfl ?_)
                  exact ⟨by rw [HN.out]; rfl, Below.refl _ _⟩
                · have hzb : ((b : Int) == (k2 : Int) + 1) = false := by rw [beq_eq_false_iff_ne]; omega
                  have H : Hid (Rd3 s.data.toList n k k2 (k2 + 1) b) := ⟨R2.out, st2_yes HB.out HBB.out hz⟩
                  go_wp2_with (go_at_call 15; refine cs.mono ?_; rintro e w2 ⟨rfl, hw2⟩; rw [hw2]; clear hw2)
                  go_meet
                  case rel => exact ⟨k2 + 1, b, rfl, rfl, rfl, rfl, hle2.1, hle2.2, H⟩
          case rest =>
            obtain ⟨a, b, rfl, rfl, rfl, rfl, hab, hbs, R3⟩ := hcut
            go_upto_region 22 with fail
            go_cut [85] (fun v wx => w = wx ∧ v = .bool (atB s.data.toList b 101 || atB s.data.toList b 69))
            case first =>
              as_aux_lemma =>
                by_cases hlt : b < s.size
                · have hb1 := atB_lt hlt 101 101 rfl
                  have hb2 := atB_lt hlt 69 69 rfl
                  cases hx : atB s.data.toList b 101
                  · go_wp2_with fail
                    go_meet
                    case rel => exact ⟨rfl, by rw [hx]; rfl⟩
                  · go_wp2_with fail
                    go_meet
                    case rel => exact ⟨rfl, by rw [hx]; rfl⟩
                · have hb1 := atB_ge hlt 101
                  have hb2 := atB_ge hlt 69
                  go_wp2_with fail
                  go_meet
                  case rel => exact ⟨rfl, by rw [hb1, hb2]; rfl⟩
            case rest =>
              obtain ⟨rfl, rfl⟩ := hcut
              go_upto_if 85 with fail
              go_cut [7, 13, 14, 15] (fun i en es ee wx => ∃ (en' : Bool) (c d : Nat), w = wx ∧ i = .int .i64 d ∧ en = .bool en' ∧ es = .int .i64 c ∧ ee = .int .i64 d ∧ c ≤ d ∧ d ≤ s.size ∧ Hid (Rd4 s.data.toList n k k2 a b en' c d))
              case first =>
                as_aux_lemma =>
                  cases hb : (atB s.data.toList b 101 || atB s.data.toList b 69)
                  · have hb2 := Bool.or_eq_false_iff.1 hb
                    have H : Hid (Rd4 s.data.toList n k k2 a b false b b) := ⟨R3.out, st3_no hb2.1 hb2.2⟩
                    clear hb2
                    go_wp2_with fail
                    go_meet
                    case rel => exact ⟨false, b, b, rfl, rfl, rfl, rfl, rfl, Nat.le_refl _, hbs, H⟩
                  · have HB : Hid (atB s.data.toList b 101 = true ∨ atB s.data.toList b 69 = true) := Bool.or_eq_true_iff.1 hb
                    have hl : b < s.size := HB.out.elim (fun h => (atB_true h).1) (fun h => (atB_true h).1)
                    go_upto_region 24 with fail
                    go_cut [103] (fun v wx => w = wx ∧ v = .bool (atB s.data.toList (b + 1) 43 || atB s.data.toList (b + 1) 45))
                    case first =>
                      by_cases hlt : b + 1 < s.size
                      · have hb1 := atB_lt hlt 43 43 rfl
                        have hb2 := atB_lt hlt 45 45 rfl
                        cases hx : atB s.data.toList (b + 1) 43
                        · go_wp2_with fail
                          go_meet
                          case rel => exact ⟨rfl, by rw [hx]; rfl⟩
                        · go_wp2_with fail
                          go_meet
                          case rel => exact ⟨rfl, by rw [hx]; rfl⟩
                      · have hb1 := atB_ge hlt 43
                        have hb2 := atB_ge hlt 45
                        go_wp2_with fail
                        go_meet
                        case rel => exact ⟨rfl, by rw [hb1, hb2]; rfl⟩
                    case rest =>
                      obtain ⟨rfl, rfl⟩ := hcut
                      go_upto_if 103 with fail
                      go_cut [7, 13] (fun i en wx => ∃ (en' : Bool) (c : Nat), w = wx ∧ i = .int .i64 c ∧ en = .bool en' ∧ c ≤ s.size ∧ Hid (sg (s.data.toList.drop (b + 1)) = (en', s.data.toList.drop c)))
                      case first =>
                        cases hg : (atB s.data.toList (b + 1) 43 || atB s.data.toList (b + 1) 45)
                        · have hg2 := Bool.or_eq_false_iff.1 hg
                          have H : Hid (sg (s.data.toList.drop (b + 1)) = (false, s.data.toList.drop (b + 1))) := sg_no hg2.1 hg2.2
                          clear hg2
                          go_wp2_with fail
                          go_meet
                          case rel => exact ⟨false, b + 1, rfl, rfl, rfl, hl, H⟩
                        · have HG : Hid (atB s.data.toList (b + 1) 43 = true ∨ atB s.data.toList (b + 1) 45 = true) := Bool.or_eq_true_iff.1 hg
                          have hlt : b + 1 < s.size := HG.out.elim (fun h => (atB_true h).1) (fun h => (atB_true h).1)
                          have hb2 := atB_lt hlt 45 45 rfl
                          have H : Hid (sg (s.data.toList.drop (b + 1)) = (atB s.data.toList (b + 1) 45, s.data.toList.drop (b + 2))) := by
                            rcases HG.out with h | h
                            · rw [plus_minus h]; exact sg_plus h
                            · rw [h]; exact sg_minus h
                          go_wp2_with fail
                          go_meet
                          case rel => exact ⟨atB s.data.toList (b + 1) 45, b + 2, rfl, by go_num, rfl, hlt, H⟩
                      case rest =>
                        obtain ⟨en', c, rfl, rfl, rfl, hcs, HG⟩ := hcut
                        have cs := skip_any s c w (by omega) hcs
                        have hle2 := skip_le hcs
                        obtain ⟨d, hdd⟩ : ∃ d, skip s.data.toList c = d := ⟨_, rfl⟩
                        rw [hdd] at cs hle2
                        have HDD : Hid (skip s.data.toList c = d) := hdd
                        clear hdd
                        by_cases hz : d = c
                        · have hzb : ((d : Int) == (c : Int)) = true := by rw [beq_iff_eq]; omega
                          have HN : Hid (mParse s.data.toList = none) := R3.out.none (st3_none HB.out HG.out (by rw [HDD.out, hz]))
                          clear hz
                          go_wp2_with (go_at_call 15; refine cs.mono ?_; rintro e w2 ⟨rfl, hw2⟩; rw [hw2]; clear hw2)
                          ((try simp only [Exit.inBlock, Exit.then]); refine bodyPost_ret (results_tmp5 rfl _ _ _) rfl ?_)
                          exact ⟨by rw [HN.out]; rfl, Below.refl _ _⟩
                        · have hzb : ((d : Int) == (c : Int)) = false := by rw [beq_eq_false_iff_ne]; omega
                          have H : Hid (Rd4 s.data.toList n k k2 a b en' c d) := ⟨R3.out, st3_yes HB.out HG.out HDD.out hz⟩
                          go_wp2_with (go_at_call 15; refine cs.mono ?_; rintro e w2 ⟨rfl, hw2⟩; rw [hw2]; clear hw2)
                          go_meet
                          case rel => exact ⟨en', c, d, rfl, rfl, rfl, rfl, rfl, hle2.1, hle2.2, H⟩
              case rest =>
                obtain ⟨en, c, d, rfl, rfl, rfl, rfl, rfl, hcd, hds, R4⟩ := hcut
                clear R3 R2
                have hkk := hle.1
                clear hle
                by_cases hd : d = s.size
                · have hdb : ((d : Int) != (s.size : Int)) = false := by rw [bne_eq_false_iff_eq]; omega
                  have HP : Hid (mParse s.data.toList = some (n, (s.data.toList.take k2).drop k, (s.data.toList.take b).drop a, en, (s.data.toList.take d).drop c)) := by
                    show _ = _
                    rw [R4.out.all, if_pos (by rw [hd]; exact List.drop_of_length_le (by simp))]
                  have HXd : Hid (((s.data.toList.take d).drop c).all dg = true) := st3_dg R4.out.four
                  clear R4 hd
                  go_wp2_with fail
                  have hA : Hid ((s.extract k k2 ++ s.extract a b).data.toList = (s.data.toList.take k2).drop k ++ (s.data.toList.take b).drop a) := ext_app ..
                  have hAs : (s.extract k k2 ++ s.extract a b).size = (k2 - k) + (b - a) := ext_app_size hkk hk2s hab hbs
                  have hFs : (s.extract a b).size = b - a := ext_size hab hbs
                  have hAb : (s.extract k k2 ++ s.extract a b).size ≤ 2097152 := by omega
                  have hFb : (s.extract a b).size ≤ 1048576 := by omega
                  have HAs : Hid ((s.extract k k2 ++ s.extract a b).size = (k2 - k) + (b - a)) := hAs
                  have HFs : Hid ((s.extract a b).size = b - a) := hFs
                  clear hAs hFs
                  generalize s.extract k k2 ++ s.extract a b = al at hA HAs hAb ⊢
                  generalize s.extract a b = fr at HFs hFb ⊢
                  go_loop [18] (fun v => ∃ f : Nat, f ≤ al.size ∧ v = .int .i64 f ∧ Hid (al.data.toList.dropWhile (· == 48) = (al.data.toList.drop f).dropWhile (· == 48))) (fun i => al.size - (RowKit.intOf i).toNat)
                  case atStart => exact ⟨0, Nat.zero_le _, rfl, rfl⟩
                  case round =>
                    obtain ⟨f, hf, rfl, H⟩ := hrel
                    by_cases hlt : f < al.size
                    · have HD : Hid (al.data.toList.drop f = al[f] :: al.data.toList.drop (f + 1)) := drop_at al f hlt
                      cases hb : ((al[f].toNat : Int) == 48)
                      · have HZ : Hid (al.data.toList.dropWhile (· == 48) = al.data.toList.drop f) := by
                          show _ = _
                          rw [H.out, HD.out, dw_no hb]
                        have hfe : ((f : Int) == (al.size : Int)) = false := by rw [beq_eq_false_iff_ne]; omega
                        have hlast : (al.size : Int) - 1 = ((al.size - 1 : Nat) : Int) := by omega
                        have HB : Hid (al[f] ≠ 48) := b48_no hb
                        go_wp2_with fail
                        clear hb
                        go_loop [19] (fun v => ∃ j : Nat, f ≤ j ∧ j < al.size ∧ v = .int .i64 j ∧ Hid (trimRightB (al.data.toList.drop f) 48 = trimRightB ((al.data.toList.take (j + 1)).drop f) 48)) (fun i => (RowKit.intOf i).toNat)
                        case atStart => exact ⟨al.size - 1, by omega, by omega, rfl, by show _ = _; rw [List.take_of_length_le (by simp; omega)]⟩
                        case round =>
                          obtain ⟨j, hfj, hj, rfl, HT⟩ := hrel
                          have HPs : Hid ((al.data.toList.take (j + 1)).drop f = (al.data.toList.take j).drop f ++ [al[j]]) := part_snoc al hfj hj
                          cases hb : ((al[j].toNat : Int) == 48)
                          · have HS : Hid (trimRightB (al.data.toList.drop f) 48 = (al.data.toList.take (j + 1)).drop f) := by
                              show _ = _
                              rw [HT.out, HPs.out]; exact trimR_last _ (b48_no hb)
                            clear HT HPs
                            have cstr := strip_any (s.extract c d) w (by rw [ext_size hcd hds]; omega)
                            have HEM : Hid ((⟨((s.extract c d).data.toList.dropWhile (· == 48)).toArray⟩ : ByteArray).data.toList = ((s.data.toList.take d).drop c).dropWhile (· == 48)) := by
                              show ((s.extract c d).data.toList.dropWhile (· == 48)).toArray.toList = _
                              rw [ext_list]
                            have hems : (⟨((s.extract c d).data.toList.dropWhile (· == 48)).toArray⟩ : ByteArray).size ≤ 1048576 := em_size hcd hds hs
                            generalize (⟨((s.extract c d).data.toList.dropWhile (· == 48)).toArray⟩ : ByteArray) = em at cstr HEM hems
                            have HCN : Hid (can em.data.toList) := by
                              show can _
                              rw [HEM.out]; exact ⟨(drop_zeros _ HXd.out).1, (drop_zeros _ HXd.out).2.2⟩
                            have hsz : (al.extract f (j + 1)).size = j + 1 - f := ext_size (by omega) (by omega)
                            have hFZ := fun (e' : Bool) (sh : Int) (he : e' = en ∨ em.data.toList = []) (hsh : sh = ((k2 - k : Nat) : Int) - f) => final (n := n) hA.out HZ.out HS.out HEM.out HAs.out (by omega) (by simp; omega) he hsh
                            have HFZ : Hid (∀ (e' : Bool) (sh : Int), (e' = en ∨ em.data.toList = []) → sh = ((k2 - k : Nat) : Int) - f → five (out (mParse s.data.toList)) = .tuple #[.int .i64 (if n then -1 else 1), .string (al.extract f (j + 1)), .bool (addN e' em.data.toList sh), .string ⟨(addM e' em.data.toList sh).toArray⟩, .bool true]) := by
                              intro e' sh h1 h2
                              rw [HP.out]; exact hFZ e' sh h1 h2
                            clear hFZ
                            have hSH : Hid (((j + 1 - f : Nat) : Int) + (((al.size - 1 : Nat) : Int) - (j : Int)) - (fr.size : Int) = ((k2 - k : Nat) : Int) - f) := by
                              show _ = _
                              have e1 := HAs.out
                              have e2 := HFs.out
                              clear HZ HS HEM HFZ HP hA cstr
                              omega
                            have hBn : Bnd (((j + 1 - f : Nat) : Int) + (((al.size - 1 : Nat) : Int) - (j : Int)) - (fr.size : Int)) := ⟨by omega, by omega⟩
                            by_cases he : em.data.toList = []
                            · have hei : em.toList.isEmpty = true := by rw [Lib.toList_data, he]; rfl
                              have HE : Hid (em.data.toList = []) := he
                              clear he
                              have cm := model_any false em _ w (by omega) HCN.out hBn
                              clear hBn
                              cases n
                              · go_wp2_with (first | (go_at_call 16; refine cstr.mono ?_; rintro e w2 ⟨rfl, hw2⟩; rw [hw2]; clear hw2) | (go_at_call 12; refine cm.mono ?_; rintro e w2 ⟨rfl, hw2⟩))
                                ((try simp only [Exit.inBlock, Exit.then]); refine bodyPost_ret (results_tmp5 rfl _ _ _) rfl ?_)
                                exact ⟨by rw [HFZ.out _ _ (.inr HE.out) hSH.out]; rfl, hw2⟩
                              · go_wp2_with (first | (go_at_call 16; refine cstr.mono ?_; rintro e w2 ⟨rfl, hw2⟩; rw [hw2]; clear hw2) | (go_at_call 12; refine cm.mono ?_; rintro e w2 ⟨rfl, hw2⟩))
                                ((try simp only [Exit.inBlock, Exit.then]); refine bodyPost_ret (results_tmp5 rfl _ _ _) rfl ?_)
                                exact ⟨by rw [HFZ.out _ _ (.inr HE.out) hSH.out]; rfl, hw2⟩
                            · have hei : em.toList.isEmpty = false := by
                                rw [Lib.toList_data]; cases hq : em.data.toList with
                                | nil => exact absurd hq he
                                | cons _ _ => rfl
                              clear he
                              have cm := model_any en em _ w (by omega) HCN.out hBn
                              clear hBn
                              cases n
                              · go_wp2_with (first | (go_at_call 16; refine cstr.mono ?_; rintro e w2 ⟨rfl, hw2⟩; rw [hw2]; clear hw2) | (go_at_call 12; refine cm.mono ?_; rintro e w2 ⟨rfl, hw2⟩))
                                ((try simp only [Exit.inBlock, Exit.then]); refine bodyPost_ret (results_tmp5 rfl _ _ _) rfl ?_)
                                exact ⟨by rw [HFZ.out _ _ (.inl rfl) hSH.out]; rfl, hw2⟩
                              · go_wp2_with (first | (go_at_call 16; refine cstr.mono ?_; rintro e w2 ⟨rfl, hw2⟩; rw [hw2]; clear hw2) | (go_at_call 12; refine cm.mono ?_; rintro e w2 ⟨rfl, hw2⟩))
                                ((try simp only [Exit.inBlock, Exit.then]); refine bodyPost_ret (results_tmp5 rfl _ _ _) rfl ?_)
                                exact ⟨by rw [HFZ.out _ _ (.inl rfl) hSH.out]; rfl, hw2⟩
                          · have h48 : al[j] = 48 := b48_yes hb
                            have hjf : j ≠ f := fun e => HB.out (by subst e; exact h48)
                            obtain ⟨u, rfl⟩ : ∃ u, j = u + 1 := ⟨j - 1, by omega⟩
                            have HT2 : Hid (trimRightB (al.data.toList.drop f) 48 = trimRightB ((al.data.toList.take (u + 1)).drop f) 48) := by
                              show _ = _
                              rw [HT.out, HPs.out, h48, trimR_snoc]
                            have hfu : f ≤ u := by omega
                            clear h48 HPs HT hjf
                            go_wp2_with fail
                            go_round
                            case rel => exact ⟨u, hfu, by omega, by go_num, HT2⟩
                            case measure => simp [RowKit.intOf]
                      · go_wp2_with fail
                        go_round
                        case rel => exact ⟨f + 1, by omega, by go_num, by show _ = _; rw [H.out, HD.out]; exact dw_yes hb⟩
                        case measure => simp [RowKit.intOf]; omega
                    · have hfe : ((f : Int) == (al.size : Int)) = true := by rw [beq_iff_eq]; omega
                      have HZ : Hid (al.data.toList.dropWhile (· == 48) = []) := by
                        show _ = _
                        rw [H.out, List.drop_of_length_le (by simp; omega)]; rfl
                      go_wp2_with fail
                      ((try simp only [Exit.inBlock, Exit.then]); refine bodyPost_ret (results_tmp5 rfl _ _ _) rfl ?_)
                      exact ⟨by rw [HP.out, out_zero (by rw [← hA.out]; exact HZ.out)]; rfl, Below.refl _ _⟩
                · have hdb : ((d : Int) != (s.size : Int)) = true := by rw [bne_iff_ne]; omega
                  have HN : Hid (mParse s.data.toList = none) := by
                    show _ = _
                    rw [R4.out.all, if_neg (fun e => hd (by have := congrArg List.length e; simp at this; omega))]
                  clear R4 hd
                  go_wp2_with fail
                  ((try simp only [Exit.inBlock, Exit.then]); refine bodyPost_ret (results_tmp5 rfl _ _ _) rfl ?_)
                  exact ⟨by rw [HN.out]; rfl, Below.refl _ _⟩
end Go.Proofs.Qxb6604011aDoor
